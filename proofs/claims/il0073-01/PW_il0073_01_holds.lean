import PyProof.Rows.All
import Wide.All
import OpenK.AllK
import Wide.FinOn
import PySem.Challenge.RW_il0073_01
set_option maxRecDepth 100000
set_option genSizeOf false
set_option Elab.async false
set_option linter.unusedVariables false
set_option linter.unusedSimpArgs false
set_option linter.unnecessarySimpa false
section
open PySem PySem.W PySem.Calls PyProof.Rows PyProof.V
namespace Mine

noncomputable abbrev P : Program := PySem.Challenge.pw_il0073_01
noncomputable abbrev Led := List (Addr × Obj)

inductive AV where
  | dat (d : Dat)
  | val (v : Value)
  | own (ds : List Dat)

noncomputable abbrev Loc := List (Str × AV)

noncomputable def AV.In (Φ : Led) (v : Value) : AV → Prop
  | .dat d => DatIn Φ v d
  | .val u => v = u
  | .own _ => False

set_option genInjectivity false in
structure OwnE where
  nm : Str
  ad : Addr
  vs : List Value
  n : Nat

noncomputable def defOf (nm : Str) : List Stmt → Option (Arguments × List Stmt × Scope)
  | [] => none
  | .FunctionDef n a b _ _ _ sc _ _ _ :: r => if n == nm then some (a, b, sc) else defOf nm r
  | _ :: r => defOf nm r

inductive HasFn (mg : Str → Option Value) (h : Heap) (nm : Str) : Prop
  | mk (a : Addr) (o : Obj) (pr : Arguments) (bd : List Stmt) (sc : Scope) (doc pm : Value) (an : Option Addr) (cd ct : Value) (e : defOf nm P.main.body = some (pr, bd, sc)) (hm : mg nm = some (.ref a)) (ho : h.get? a = some o)
    (hd : o.data = .func (fnOf nm nm pr bd sc .none .none doc pm an cd ct)) (hc : h.CodeRec cd nm) : HasFn mg h nm

theorem HasFn.keeps {mg : Str → Option Value} {h h' : Heap} {nm : Str} (x : HasFn mg h nm) (k : ∀ b o, h.get? b = some o → h'.get? b = some o) : HasFn mg h' nm := by
  obtain ⟨a, o, pr, bd, sc, doc, pm, an, cd, ct, e, hm, ho, hd, hc⟩ := x
  exact ⟨a, o, pr, bd, sc, doc, pm, an, cd, ct, e, hm, k _ _ ho, hd, hc.keeps k⟩

noncomputable def fnNames : List Str := ["fspath", "_get_sep", "isabs", "join", "split", "splitroot", "normpath", "commonpath", "Int2AP", "sorted_list_difference", "three_way_cmp", "_law_times", "_law_names", "_law_text", "_law_key", "_law_shared", "_law_common", "_law_piece", "_law_seen", "_law_once"]
noncomputable def biNames : List Str := ["type", "issubclass", "isinstance", "str", "bytes", "int", "abs", "divmod", "list", "tuple", "map", "min", "max", "enumerate", "range", "len", "sorted", "set", "zip", "all", "ValueError", "TypeError", "AttributeError", "IndexError", "BytesWarning"]

structure Wd (w : World) (mg mb : Str → Option Value) (h : Heap) : Prop where
  g : h.Ns mainGlobals mg
  b : h.Ns builtinsNs mb
  lim : h.NoLimit
  bi : ∀ x ∈ biNames, mg x = none ∧ mb x = bootBuiltins x
  fns : ∀ x ∈ fnNames, HasFn mg h x

theorem Wd.keeps {w : World} {mg mb : Str → Option Value} {h h' : Heap} (W : Wd w mg mb h) (k : ∀ b o, h.get? b = some o → h'.get? b = some o) : Wd w mg mb h' :=
  ⟨W.g.keeps k, W.b.keeps k, W.lim.keeps k, W.bi, fun x hx => (W.fns x hx).keeps k⟩

noncomputable def Stk (hB h : Heap) (stk : List Env) : Prop :=
  ∀ env ∈ stk, env.scope.kind ≠ .module ∧ ∃ L o es n, env.frame = some L ∧ hB.get? L = none ∧ h.get? L = some o ∧ o.data = .dict es n
noncomputable def frs (stk : List Env) : List Addr := stk.filterMap (·.frame)

theorem Stk.fun {hB h : Heap} : ∀ {stk : List Env}, Stk hB h stk → h.FunFrames hB stk
  | [], _ => trivial
  | env :: r, S => by
    obtain ⟨hk, L, o, es, n, hf, hb, ho, hd⟩ := S env (.head _)
    exact ⟨hk, ⟨L, o, hf, hb, ho, fun vs e => by rw [hd] at e; cases e⟩, Stk.fun fun e he => S e (.tail _ he)⟩
theorem Stk.at {hB h : Heap} {stk : List Env} (S : Stk hB h stk) {a : Addr} (ha : a ∈ frs stk) : hB.get? a = none ∧ ∃ o es n, h.get? a = some o ∧ o.data = .dict es n := by
  obtain ⟨env, he, hf⟩ := List.mem_filterMap.mp ha
  obtain ⟨_, L, o, es, n, hf', hb, ho, hd⟩ := S env he
  rw [hf] at hf'; cases hf'
  exact ⟨hb, o, es, n, ho, hd⟩

structure Upto (fs : List Addr) (h h' : Heap) : Prop where
  off : ∀ b o, h.get? b = some o → b ∉ fs → h'.get? b = some o
  on : ∀ b o, h.get? b = some o → ∃ sl, h'.get? b = some { o with slots := sl }
theorem Upto.of {fs : List Addr} {h h' : Heap} (k : ∀ b o, h.get? b = some o → h'.get? b = some o) : Upto fs h h' := ⟨fun b o e zz1 => k b o e, fun b o e => ⟨o.slots, k b o e⟩⟩
theorem Upto.trans {fs : List Addr} {h h' h'' : Heap} (x : Upto fs h h') (y : Upto fs h' h'') : Upto fs h h'' :=
  ⟨fun b o e n => y.off b o (x.off b o e n) n, fun b o e => by
    obtain ⟨s1, e1⟩ := x.on b o e
    obtain ⟨s2, e2⟩ := y.on b _ e1
    exact ⟨s2, e2⟩⟩
theorem Upto.none_of {fs : List Addr} {h h' : Heap} (x : Upto fs h h') {b : Addr} (e : h'.get? b = none) : h.get? b = none := by
  cases q : h.get? b with
  | none => rfl
  | some o => obtain ⟨sl, e'⟩ := x.on b o q; rw [e] at e'; cases e'
theorem Stk.upto {fs : List Addr} {hB h h' : Heap} {stk : List Env} (S : Stk hB h stk) (U : Upto fs h h') : Stk hB h' stk := fun env he => by
  obtain ⟨hk, L, o, es, n, hf, hb, ho, hd⟩ := S env he
  obtain ⟨sl, h2⟩ := U.on L o ho
  exact ⟨hk, L, _, es, n, hf, hb, h2, hd⟩

set_option genInjectivity false in
structure Cx where
  w : World
  mg : Str → Option Value
  mb : Str → Option Value
  hB : Heap
  h₀ : Heap
  Φ₀ : Led
  env : Env
  stk : List Env
  fs : List Addr
  A : Around
  gens : Array GenState
  os : OsState
  mc : List (Str × Addr)
  lv : Nat

noncomputable def muts (C : Cx) (ow : List OwnE) : List Addr := C.env.locals :: (C.mc.map (·.2) ++ ow.map (·.ad))

noncomputable def Stored (env : Env) (h : Heap) (m : Str → Option Value) (x : Str) (v : Value) : Prop :=
  (env.kindOf x = some .local ∧ m x = some v) ∨ ((env.kindOf x = some .cell ∨ env.kindOf x = some .free) ∧ ∃ c, env.cells.lookup x = some c ∧ h.IsCell c (some v))

noncomputable def LRel (Φ : Led) (ow : List OwnE) (x : Str) (v : Value) : AV → Prop
  | .own ds => ∃ q ∈ ow, q.nm = x ∧ v = .ref q.ad ∧ DatAll Φ q.vs ds
  | av => av.In Φ v

structure Cok (C : Cx) : Prop where
  wd : Wd C.w C.mg C.mb C.hB
  kind : C.env.scope.kind = .function
  glob : C.env.globals = mainGlobals
  blt : C.env.builtins = builtinsNs
  stk : C.A.frames = some C.stk
  two : ∀ a ∈ frs C.stk, a = C.env.locals ∨ a ∈ C.fs
  fsd : ∀ a ∈ C.fs, a ∈ frs C.stk ∧ ∃ o es n, C.h₀.get? a = some o ∧ o.data = .dict es n
  frame : ∃ f, C.env.frame = some f ∧ C.stk.head?.bind (·.frame) = some f
  room : C.A.depth + C.lv ≤ 900 ∧ C.A.units + 20 * C.lv + 200 ≤ cLine
  cel : ∀ x, C.env.kindOf x = some .cell → ∃ c, C.env.cells.lookup x = some c
  inj : ∀ x y c, C.env.cells.lookup x = some c → C.env.cells.lookup y = some c → x = y

structure AtM (C : Cx) (X Φ : Led) (ρ : Loc) (m : Str → Option Value) (ow : List OwnE) (s : Shared) : Prop where
  ok : Cok C
  fr : Fr C.hB C.env.locals s.heap m
  baseIn : ∀ a o, C.hB.get? a = some o → C.h₀.get? a = some o
  keep : Upto C.fs C.h₀ s.heap
  stk : Stk C.hB s.heap C.stk
  led : ∀ p ∈ Φ, s.heap.get? p.1 = some p.2
  seq : ∀ p ∈ Φ, ∃ xs n, p.2.data = .seq xs n
  ledm : ∀ p ∈ Φ, p.1 ∉ muts C ow
  xtr : ∀ p ∈ X, s.heap.get? p.1 = some p.2
  xtrm : ∀ p ∈ X, p.1 ∉ muts C ow ∧ ∀ es n, p.2.data ≠ .dict es n
  xled : ∀ p ∈ X, ∀ q ∈ Φ, q.1 ≠ p.1
  xnew : ∀ p ∈ X, C.h₀.get? p.1 = none
  xcel : ∀ p ∈ X, ∀ v, p.2.data ≠ .cell v
  xnd : (X.map (·.1)).Nodup
  src : ∀ p ∈ Φ, p ∈ C.Φ₀ ∨ C.h₀.get? p.1 = none
  own : ∀ q ∈ ow, s.heap.get? q.ad = some (listOf q.vs.toArray q.n)
  cells : ∀ q ∈ C.mc, ∃ v, s.heap.IsCell q.2 v
  nodup : (muts C ow).Nodup
  nms : (ow.map (·.nm)).Nodup
  fresh : ∀ a ∈ muts C ow, C.h₀.get? a = none
  loc : ∀ x av, ρ.lookup x = some av → ∃ v, Stored C.env s.heap m x v ∧ LRel Φ ow x v av
  gens : s.gens = C.gens
  os : s.os = C.os

set_option genInjectivity false in
structure Fm where
  m : Str → Option Value
  ow : List OwnE
noncomputable abbrev AtF (C : Cx) (X Φ : Led) (ρ : Loc) (f : Fm) (s : Shared) : Prop := AtM C X Φ ρ f.m f.ow s
noncomputable def At (C : Cx) (X Φ : Led) (ρ : Loc) (s : Shared) : Prop := ∃ f, AtF C X Φ ρ f s

theorem AV.In.mono {Φ Φ' : Led} (hs : ∀ p ∈ Φ, p ∈ Φ') : ∀ {av : AV} {v : Value}, av.In Φ v → av.In Φ' v
  | .dat _, _, h => DatIn.mono hs h
  | .val _, _, h => h
  | .own _, _, h => h
theorem LRel.mono {Φ Φ' : Led} {ow : List OwnE} {x : Str} (hs : ∀ p ∈ Φ, p ∈ Φ') : ∀ {av : AV} {v : Value}, LRel Φ ow x v av → LRel Φ' ow x v av
  | .dat _, _, h => DatIn.mono hs h
  | .val _, _, h => h
  | .own _, _, ⟨q, hq, hn, hv, hd⟩ => ⟨q, hq, hn, hv, hd.mono hs⟩

theorem isCell_upto {fs : List Addr} {h h' : Heap} {c : Addr} {v : Option Value} (x : h.IsCell c v) (U : Upto fs h h') : h'.IsCell c v := by
  obtain ⟨o, ho, hd⟩ := x
  obtain ⟨sl, e⟩ := U.on _ _ ho
  exact ⟨_, e, hd⟩
theorem Stored.upto {fs : List Addr} {env : Env} {h h' : Heap} {m : Str → Option Value} {x : Str} {v : Value} (S : Stored env h m x v) (U : Upto fs h h') : Stored env h' m x v := by
  rcases S with S | ⟨hk, c, hc, hi⟩
  · exact .inl S
  · exact .inr ⟨hk, c, hc, isCell_upto hi U⟩
theorem ns_upto {fs : List Addr} {h h' : Heap} {a : Addr} {m : Str → Option Value} (x : h.Ns a m) (U : Upto fs h h') : h'.Ns a m := by
  obtain ⟨o, es, ep, ho, hd, r⟩ := x
  obtain ⟨sl, e⟩ := U.on _ _ ho
  exact ⟨_, es, ep, e, hd, r⟩

section
variable {C : Cx} {X Φ Φ' : Led} {ρ ρ' : Loc} {m : Str → Option Value} {ow : List OwnE} {s s' : Shared}

theorem AtM.some_of_mut (H : AtM C X Φ ρ m ow s) {a : Addr} (ha : a ∈ muts C ow) : ∃ o, s.heap.get? a = some o := by
  rcases List.mem_cons.mp ha with rfl | ha
  · obtain ⟨o, _, _, ho, _⟩ := H.fr.ns
    exact ⟨o, ho⟩
  · rcases List.mem_append.mp ha with ha | ha
    · obtain ⟨q, hq, rfl⟩ := List.mem_map.mp ha
      obtain ⟨v, o, ho, _⟩ := H.cells q hq
      exact ⟨o, ho⟩
    · obtain ⟨q, hq, rfl⟩ := List.mem_map.mp ha
      exact ⟨_, H.own q hq⟩

theorem AtM.off_stk (H : AtM C X Φ ρ m ow s) {a : Addr} {o : Obj} (ho : s.heap.get? a = some o) (hd : ∀ es n, o.data ≠ .dict es n) : a ∉ frs C.stk := fun q => by
  obtain ⟨_, o', es, n, ho', hd'⟩ := H.stk.at q
  rw [ho] at ho'; cases ho'; exact hd es n hd'

theorem AtM.upto (H : AtM C X Φ ρ m ow s) (U : Upto (frs C.stk) s.heap s'.heap)
    (hΦ : ∀ p ∈ Φ, p ∈ Φ') (hn : ∀ p ∈ Φ', p ∈ Φ ∨ (s'.heap.get? p.1 = some p.2 ∧ s.heap.get? p.1 = none ∧ ∃ xs n, p.2.data = .seq xs n)) (hg : s'.gens = s.gens) (ho : s'.os = s.os) : AtM C X Φ' ρ m ow s' := by
  have nm : ∀ p ∈ Φ', s.heap.get? p.1 = none → p.1 ∉ muts C ow := fun p zz1 e q => by
    obtain ⟨o, ho⟩ := H.some_of_mut q
    rw [e] at ho; cases ho
  have hb : ∀ b o, C.hB.get? b = some o → s'.heap.get? b = some o := fun b o e => U.off _ _ (H.fr.keep b o e) fun q => by
    rw [(H.stk.at q).1] at e; cases e
  refine ⟨H.ok, ⟨ns_upto H.fr.ns U, hb, H.fr.above⟩, H.baseIn, ⟨fun b o e n => ?_, fun b o e => ?_⟩, H.stk.upto U, fun p hp => ?_, fun p hp => ?_, fun p hp => ?_, fun p hp => ?_, H.xtrm, fun p hp q hq => ?_, H.xnew, H.xcel, H.xnd, fun p hp => ?_, fun q hq => ?_,
    fun q hq => ?_, H.nodup, H.nms, H.fresh, fun x av e => ?_, hg.trans H.gens, ho.trans H.os⟩
  · refine U.off _ _ (H.keep.off b o e n) fun q => ?_
    rcases H.ok.two b q with q | q
    · have := H.fresh b (q ▸ .head _); rw [e] at this; cases this
    · exact n q
  · obtain ⟨s1, e1⟩ := H.keep.on b o e
    obtain ⟨s2, e2⟩ := U.on b _ e1
    exact ⟨s2, e2⟩
  · rcases hn p hp with q | q
    · obtain ⟨xs, n, hd⟩ := H.seq p q
      exact U.off _ _ (H.led p q) (H.off_stk (H.led p q) fun es k => by rw [hd]; exact fun x => by cases x)
    · exact q.1
  · rcases hn p hp with q | q
    · exact H.seq p q
    · exact q.2.2
  · rcases hn p hp with q | q
    · exact H.ledm p q
    · exact nm p hp q.2.1
  · exact U.off _ _ (H.xtr p hp) (H.off_stk (H.xtr p hp) (H.xtrm p hp).2)
  · rcases hn q hq with e | e
    · exact H.xled p hp q e
    · intro e2
      have h1 := H.xtr p hp
      rw [← e2, e.2.1] at h1; cases h1
  · rcases hn p hp with q | q
    · exact H.src p q
    · refine .inr ?_
      cases e : C.h₀.get? p.1 with
      | none => rfl
      | some o => obtain ⟨sl, e'⟩ := H.keep.on _ _ e; rw [q.2.1] at e'; cases e'
  · exact U.off _ _ (H.own q hq) (H.off_stk (H.own q hq) fun es k x => by cases x)
  · obtain ⟨v, hi⟩ := H.cells q hq
    exact ⟨v, isCell_upto hi U⟩
  · obtain ⟨v, hs, hr⟩ := H.loc x av e
    exact ⟨v, hs.upto U, hr.mono hΦ⟩

theorem AtM.grow (H : AtM C X Φ ρ m ow s) (k : ∀ b o, s.heap.get? b = some o → s'.heap.get? b = some o)
    (hΦ : ∀ p ∈ Φ, p ∈ Φ') (hn : ∀ p ∈ Φ', p ∈ Φ ∨ (s'.heap.get? p.1 = some p.2 ∧ s.heap.get? p.1 = none ∧ ∃ xs n, p.2.data = .seq xs n)) (hg : s'.gens = s.gens) (ho : s'.os = s.os) : AtM C X Φ' ρ m ow s' :=
  H.upto (.of k) hΦ hn hg ho
theorem AtM.keeps (H : AtM C X Φ ρ m ow s) (k : ∀ b o, s.heap.get? b = some o → s'.heap.get? b = some o) (hg : s'.gens = s.gens) (ho : s'.os = s.os) : AtM C X Φ ρ m ow s' :=
  H.grow k (fun zz1 h => h) (fun zz1 h => .inl h) hg ho
theorem AtM.toks (H : AtM C X Φ ρ m ow s) (t : Nat) : AtM C X Φ ρ m ow { s with toks := t } := H.keeps (fun zz1 zz2 e => e) rfl rfl
theorem AtM.push (H : AtM C X Φ ρ m ow s) (o : Obj) (t : Nat) {xs : Array Value} {n : Nat} (hd : o.data = .seq xs n) : AtM C X ((s.heap.objs.size, o) :: Φ) ρ m ow { s with heap := s.heap.push o, toks := t } := by
  refine H.grow (fun b o' e => Heap.get?_push_of_some _ e) (fun zz1 h => .tail _ h) (fun p hp => ?_) rfl rfl
  rcases List.mem_cons.mp hp with rfl | hp
  · exact .inr ⟨Heap.get?_push_size _ (Obj.isFreed_of_seq hd), Heap.get?_none_of_le (Nat.le_refl _), xs, n, hd⟩
  · exact .inl hp
theorem AtM.garbage (H : AtM C X Φ ρ m ow s) (o : Obj) (t : Nat) : AtM C X Φ ρ m ow { s with heap := s.heap.push o, toks := t } := H.keeps (fun b o' e => Heap.get?_push_of_some _ e) rfl rfl

noncomputable def Loc.Sub (ρ' ρ : Loc) : Prop := ∀ p ∈ ρ', ρ.lookup p.1 = some p.2
theorem mem_lookup {α : Type} : ∀ {l : List (Str × α)} {n : Str} {c : α}, l.lookup n = some c → (n, c) ∈ l
  | (k, v) :: r, n, c, h => by
    rw [List.lookup_cons] at h
    cases hb : n == k with
    | true => rw [hb] at h; cases h; rw [beq_iff_eq.mp hb]; exact List.mem_cons_self
    | false => rw [hb] at h; exact List.mem_cons_of_mem _ (mem_lookup h)
theorem AtM.sub (H : AtM C X Φ ρ m ow s) (h : ρ'.Sub ρ) : AtM C X Φ ρ' m ow s := { H with loc := fun x av e => H.loc x av (h _ (mem_lookup e)) }
theorem At.sub (H : At C X Φ ρ s) (h : ρ'.Sub ρ) : At C X Φ ρ' s := H.elim fun f H => ⟨f, AtM.sub H h⟩
theorem AtM.at (H : AtM C X Φ ρ m ow s) : At C X Φ ρ s := ⟨⟨m, ow⟩, H⟩
theorem Loc.Sub.nil : Loc.Sub [] ρ := fun zz1 h => nomatch h
theorem Loc.Sub.cons {x : Str} {av : AV} (h : ρ.lookup x = some av) (r : Loc.Sub ρ' ρ) : Loc.Sub ((x, av) :: ρ') ρ := fun p hp => by
  rcases List.mem_cons.mp hp with rfl | hp
  · exact h
  · exact r p hp
end

inductive Got (C : Cx) (X Φ : Led) (ρ : Loc) (f : Fm) (av : AV) (v : Value) (s' : Shared) : Prop
  | mk (Φ' : Led) (g : ∀ p ∈ Φ, p ∈ Φ') (H : AtF C X Φ' ρ f s') (i : av.In Φ' v) : Got C X Φ ρ f av v s'
inductive GotT (C : Cx) (X Φ : Led) (ρ : Loc) (f : Fm) (b v : Bool) (s' : Shared) : Prop
  | mk (e : v = b) (Φ' : Led) (g : ∀ p ∈ Φ, p ∈ Φ') (H : AtF C X Φ' ρ f s') : GotT C X Φ ρ f b v s'

theorem Got.up {C : Cx} {X Φ Φ' : Led} {ρ : Loc} {f : Fm} {av : AV} {v : Value} {s' : Shared} (h : Got C X Φ' ρ f av v s') (g : ∀ p ∈ Φ, p ∈ Φ') : Got C X Φ ρ f av v s' :=
  let ⟨Φ2, g2, H, i⟩ := h
  ⟨Φ2, fun p hp => g2 p (g p hp), H, i⟩
theorem GotT.up {C : Cx} {X Φ Φ' : Led} {ρ : Loc} {f : Fm} {b v : Bool} {s' : Shared} (h : GotT C X Φ' ρ f b v s') (g : ∀ p ∈ Φ, p ∈ Φ') : GotT C X Φ ρ f b v s' :=
  let ⟨e, Φ2, g2, H⟩ := h
  ⟨e, Φ2, fun p hp => g2 p (g p hp), H⟩

noncomputable def EvJ (C : Cx) (ρ : Loc) (e : Expr) (av : AV) : Prop :=
  ∀ X Φ f s, AtF C X Φ ρ f s → wpAny (model P C.w) C.A (eval e C.env) (Got C X Φ ρ f av) (fun zz1 zz2 => False) s

inductive Out where
  | next (ρ : Loc)
  | brk (ρ : Loc)
  | cont (ρ : Loc)
  | ret (av : AV)
  | exc (n : String × Bool) (ρ : Loc)

noncomputable def Out.Is (C : Cx) (X Φ' : Led) (s' : Shared) : Flow → Out → Prop
  | .next, .next ρ => At C X Φ' ρ s'
  | .brk, .brk ρ => At C X Φ' ρ s'
  | .cont, .cont ρ => At C X Φ' ρ s'
  | .ret v, .ret av => At C X Φ' [] s' ∧ av.In Φ' v
  | _, _ => False

inductive Out.Got (C : Cx) (X Φ' : Led) (s' : Shared) : Flow → Out → Prop
  | next {ρ : Loc} (h : At C X Φ' ρ s') : Out.Got C X Φ' s' .next (.next ρ)
  | brk {ρ : Loc} (h : At C X Φ' ρ s') : Out.Got C X Φ' s' .brk (.brk ρ)
  | cont {ρ : Loc} (h : At C X Φ' ρ s') : Out.Got C X Φ' s' .cont (.cont ρ)
  | ret {v : Value} {av : AV} (h : At C X Φ' [] s') (hv : av.In Φ' v) : Out.Got C X Φ' s' (.ret v) (.ret av)
theorem Out.Is.got {C : Cx} {X Φ' : Led} {s' : Shared} {fl : Flow} {o : Out} (h : Out.Is C X Φ' s' fl o) : Out.Got C X Φ' s' fl o := by
  cases fl <;> cases o <;> first | exact h.elim | exact .next h | exact .brk h | exact .cont h | exact .ret h.1 h.2

inductive XTb (C : Cx) (X : Led) (s : Shared) (a : Addr) (vs : Array Value) (new : Bool) : Prop
  | mk (T : Addr) (oT : Obj) (ts : Array Value) (f : Addr) (h1 : vs[1]? = some (.ref T)) (hTa : T ≠ a) (hT : s.heap.get? T = some oT) (hd : oT.data = .fields ts) (hf : C.env.frame = some f)
    (h3 : ts[3]? = some (if new = true then .none else rawInt f)) (h0 : C.h₀.get? T = none) (hX : ∀ p ∈ X, p.1 ≠ T) : XTb C X s a vs new
inductive XIn (C : Cx) (X : Led) (s : Shared) (e : Value) (n : String × Bool) (new : Bool) : Prop
  | mk (a : Addr) (ob : Obj) (vs : Array Value) (he : e = .ref a) (ha : s.heap.get? a = some ob) (hc : ob.cls = .type n.1) (hd : ob.data = .fields vs) (h0 : C.h₀.get? a = none) (hX : ∀ p ∈ X, p.1 ≠ a)
    (h2 : n.2 = true → vs[2]? = some .none) (hcase : (new = true ∧ vs[1]? = some .none) ∨ XTb C X s a vs new) : XIn C X s e n new
inductive GotX (C : Cx) (X Φ : Led) (ρ : Loc) (f : Fm) (n : String × Bool) (e : Value) (s' : Shared) : Prop
  | mk (Φ' : Led) (g : ∀ p ∈ Φ, p ∈ Φ') (H : AtF C X Φ' ρ f s') (hx : XIn C X s' e n true) : GotX C X Φ ρ f n e s'

theorem GotX.up {C : Cx} {X Φ Φ' : Led} {ρ : Loc} {f : Fm} {n : String × Bool} {v : Value} {s' : Shared} (h : GotX C X Φ' ρ f n v s') (g : ∀ p ∈ Φ, p ∈ Φ') : GotX C X Φ ρ f n v s' :=
  let ⟨Φ2, g2, H, i⟩ := h
  ⟨Φ2, fun p hp => g2 p (g p hp), H, i⟩

inductive Done (C : Cx) (X Φ : Led) (Q : Out → Prop) (fl : Flow) (s' : Shared) : Prop
  | mk (Φ' : Led) (o : Out) (g : ∀ p ∈ Φ, p ∈ Φ') (hq : Q o) (hi : Out.Is C X Φ' s' fl o) : Done C X Φ Q fl s'
inductive DoneE (C : Cx) (X Φ : Led) (Q : Out → Prop) (e : Value) (s' : Shared) : Prop
  | mk (Φ' : Led) (n : String × Bool) (ρ : Loc) (new : Bool) (g : ∀ p ∈ Φ, p ∈ Φ') (hq : Q (.exc n ρ)) (H : At C X Φ' ρ s') (hx : XIn C X s' e n new) : DoneE C X Φ Q e s'

noncomputable def ExJ (C : Cx) (ρ : Loc) (b : List Stmt) (Q : Out → Prop) : Prop :=
  ∀ X Φ f s, AtF C X Φ ρ f s → wpAny (model P C.w) C.A (execs b C.env) (Done C X Φ Q) (DoneE C X Φ Q) s
noncomputable def SxJ (C : Cx) (ρ : Loc) (st : Stmt) (Q : Out → Prop) : Prop :=
  ∀ X Φ f s, AtF C X Φ ρ f s → wpAny (model P C.w) C.A (exec st C.env) (Done C X Φ Q) (DoneE C X Φ Q) s
noncomputable def EvX (C : Cx) (ρ : Loc) (e : Expr) (n : String × Bool) : Prop :=
  ∀ X Φ f s, AtF C X Φ ρ f s → wpAny (model P C.w) C.A (eval e C.env) (fun zz1 zz2 => False) (GotX C X Φ ρ f n) s
noncomputable def TvJ (C : Cx) (ρ : Loc) (e : Expr) (b : Bool) : Prop :=
  ∀ X Φ f s, AtF C X Φ ρ f s → wpAny (model P C.w) C.A (isTrue e C.env (eval e C.env)) (GotT C X Φ ρ f b) (fun zz1 zz2 => False) s
noncomputable def TvX (C : Cx) (ρ : Loc) (e : Expr) (n : String × Bool) : Prop :=
  ∀ X Φ f s, AtF C X Φ ρ f s → wpAny (model P C.w) C.A (isTrue e C.env (eval e C.env)) (fun zz1 zz2 => False) (GotX C X Φ ρ f n) s

section
variable {C : Cx} {X Φ Φ' : Led} {ρ ρ' : Loc} {m : Str → Option Value} {ow : List OwnE} {s s' : Shared} {Q Q' : Out → Prop} {b : List Stmt} {st : Stmt} {rest : List Stmt}

theorem ff {M : Model} {A : Around} {α : Type} {t : Sem α} {Q : α → Shared → Prop} {E : Value → Shared → Prop} {s : Shared} (h : wpAny M A t Q (fun zz1 zz2 => False) s) : wpAny M A t Q E s :=
  wpAny_mono h (fun zz1 zz2 q => q) (fun zz1 zz2 f => f.elim)

theorem Done.up (hs : ∀ p ∈ Φ, p ∈ Φ') {fl : Flow} (h : Done C X Φ' Q fl s) : Done C X Φ Q fl s := by
  obtain ⟨Φ2, o, g1, g2, g3⟩ := h
  exact ⟨Φ2, o, fun p hp => g1 p (hs p hp), g2, g3⟩
theorem DoneE.up (hs : ∀ p ∈ Φ, p ∈ Φ') {e : Value} (h : DoneE C X Φ' Q e s) : DoneE C X Φ Q e s := by
  obtain ⟨Φ2, n, r, w, g1, g2, g3, g4⟩ := h
  exact ⟨Φ2, n, r, w, fun p hp => g1 p (hs p hp), g2, g3, g4⟩
theorem Done.mono {fl : Flow} (h : Done C X Φ Q fl s) (hq : ∀ o, Q o → Q' o) : Done C X Φ Q' fl s := by
  obtain ⟨Φ2, o, g1, g2, g3⟩ := h
  exact ⟨Φ2, o, g1, hq _ g2, g3⟩
theorem DoneE.mono {e : Value} (h : DoneE C X Φ Q e s) (hq : ∀ o, Q o → Q' o) : DoneE C X Φ Q' e s := by
  obtain ⟨Φ2, n, r, w, g1, g2, g3, g4⟩ := h
  exact ⟨Φ2, n, r, w, g1, hq _ g2, g3, g4⟩

theorem ExJ.mono (h : ExJ C ρ b Q) (hq : ∀ o, Q o → Q' o) : ExJ C ρ b Q' := fun X Φ f s H =>
  wpAny_mono (h X Φ f s H) (fun zz1 zz2 g => g.mono hq) (fun zz1 zz2 g => g.mono hq)
theorem SxJ.mono (h : SxJ C ρ st Q) (hq : ∀ o, Q o → Q' o) : SxJ C ρ st Q' := fun X Φ f s H =>
  wpAny_mono (h X Φ f s H) (fun zz1 zz2 g => g.mono hq) (fun zz1 zz2 g => g.mono hq)
theorem ExJ.sub (h : ExJ C ρ' b Q) (hs : ρ'.Sub ρ) : ExJ C ρ b Q := fun X Φ f s H => h X Φ f s (AtM.sub H hs)
theorem ExJ.nil (h : Q (.next ρ)) : ExJ C ρ [] Q := fun X Φ f s H => wpAny_execs_nil ⟨Φ, .next ρ, fun zz1 x => x, h, H.at⟩

theorem ExJ.cons (h : SxJ C ρ st (fun o => match o with | .next ρ' => ExJ C ρ' rest Q | o => Q o)) : ExJ C ρ (st :: rest) Q := fun X Φ f s H => by
  refine wpAny_execs_cons (wpAny_mono (h X Φ f s H) (fun fl s' hd => ?_) fun e s' hd => ?_)
  · obtain ⟨Φ', o, h1, h2, h3⟩ := hd
    cases h3.got
    · obtain ⟨f', h3⟩ := h3
      exact wpAny_mono (h2 X Φ' f' s' h3) (fun zz1 zz2 g => g.up h1) (fun zz1 zz2 g => g.up h1)
    · exact ⟨Φ', _, h1, h2, h3⟩
    · exact ⟨Φ', _, h1, h2, h3⟩
    · exact ⟨Φ', _, h1, h2, h3⟩
  · obtain ⟨Φ', n, r, w, h1, h2, h3, h4⟩ := hd
    exact ⟨Φ', n, r, w, h1, h2, h3, h4⟩
end
end Mine
end
section
open PySem PySem.W PySem.Calls PyProof.Rows PyProof.V
namespace Mine

section
variable {C : Cx} {X Φ Φ' : Led} {ρ ρ' : Loc} {s s' : Shared} {x : Str} {pos : Pos} {av : AV} {v : Value} {k : Nat}

theorem AtM.base {m : Str → Option Value} {ow : List OwnE} (H : AtM C X Φ ρ m ow s) : ∀ b o, C.hB.get? b = some o → s.heap.get? b = some o := H.fr.keep
theorem AtM.units {m : Str → Option Value} {ow : List OwnE} (H : AtM C X Φ ρ m ow s) : C.A.units + 64 < cLine := by
  have := H.ok.room.2
  lia
theorem AV.in_of_lrel {ow : List OwnE} (hno : ∀ ds, av ≠ .own ds) (h : LRel Φ ow x v av) : av.In Φ v := by
  cases av with
  | own ds => exact absurd rfl (hno ds)
  | dat d => exact h
  | val u => exact h

theorem EvJ.nameA (h : ρ.lookup x = some av) (hno : ∀ ds, av ≠ .own ds) (hd : (x == ("__debug__" : Str)) = false) (hc : (x == ("__classdict__" : Str)) = false) : EvJ C ρ (.Name x pos) av := by
  intro X Φ f s H
  obtain ⟨v, hs, hr⟩ := H.loc x av h
  have e : Got C X Φ ρ f av v s := ⟨Φ, fun zz1 h => h, H, AV.in_of_lrel hno hr⟩
  rcases hs with ⟨hk, hm⟩ | ⟨hk | hk, c, hl, hi⟩
  · exact wpAny_Name (wpAny_loadName_local H.ok.kind hk H.fr.ns hm e) hd
  · exact wpAny_Name (wpAny_loadName_cell H.ok.kind hk hl hi e) hd
  · exact wpAny_Name (wpAny_loadName_free H.ok.kind hk hl hi e hc) hd
theorem EvJ.name {d : Dat} (h : ρ.lookup x = some (.dat d)) (hd : (x == ("__debug__" : Str)) = false := by decide) (hc : (x == ("__classdict__" : Str)) = false := by decide) : EvJ C ρ (.Name x pos) (.dat d) :=
  EvJ.nameA h (fun zz1 e => nomatch e) hd hc
theorem EvJ.nameV (h : ρ.lookup x = some (.val v)) (hd : (x == ("__debug__" : Str)) = false := by decide) (hc : (x == ("__classdict__" : Str)) = false := by decide) : EvJ C ρ (.Name x pos) (.val v) :=
  EvJ.nameA h (fun zz1 e => nomatch e) hd hc

theorem EvJ.bi (hx : x ∈ biNames) (hv : bootBuiltins x = some v) (hk : C.env.kindOf x = some .globalImplicit := by rfl) (hd : (x == ("__debug__" : Str)) = false := by decide) : EvJ C ρ (.Name x pos) (.val v) := by
  intro X Φ f s H
  have ok := H.ok
  obtain ⟨h1, h2⟩ := ok.wd.bi x hx
  refine Name_function_global ok.kind hk (loadGlobal_builtin (env := C.env) (by rw [ok.glob]; exact ok.wd.g.keeps (AtM.base H)) h1 (by rw [ok.blt]; exact ok.wd.b.keeps (AtM.base H)) (h2.trans hv) ⟨Φ, fun zz1 h => h, H, rfl⟩) hd

theorem EvJ.intC {i : Int} : EvJ C ρ (.Constant (.int i) k pos) (.dat (.int i)) := fun X Φ f s H => wpAny_Constant_int ⟨Φ, fun zz1 h => h, H.toks _, .int _ _⟩
theorem EvJ.strC {t : Str} : EvJ C ρ (.Constant (.str t) k pos) (.dat (.str t)) := fun X Φ f s H => Constant_str ⟨Φ, fun zz1 h => h, H.toks _, .str _ _⟩
theorem EvJ.noneC : EvJ C ρ (.Constant .none k pos) (.dat .none) := fun X Φ f s H => Constant_none ⟨Φ, fun zz1 h => h, H, .none⟩
theorem EvJ.boolC {b : Bool} : EvJ C ρ (.Constant (.bool b) k pos) (.dat (.bool b)) := fun X Φ f s H => Constant_bool ⟨Φ, fun zz1 h => h, H, .bool _⟩
theorem EvJ.bytesC {b : List UInt8} : EvJ C ρ (.Constant (.bytes b) k pos) (.dat (.bytes b.toArray)) := fun X Φ f s H => fun zz1 zz2 zz3 => ⟨Φ, fun zz1 h => h, H.toks _, .bytes _ _⟩

noncomputable def Op2 (g : Value → Value → Sem Value) (a b r : Dat) : Prop :=
  ∀ C X Φ ρ f s v1 v2, AtF C X Φ ρ f s → DatIn Φ v1 a → DatIn Φ v2 b → wpAny (model P C.w) C.A (g v1 v2) (Got C X Φ ρ f (.dat r)) (fun zz1 zz2 => False) s
noncomputable def Op1 (g : Value → Sem Value) (a r : Dat) : Prop :=
  ∀ C X Φ ρ f s v1, AtF C X Φ ρ f s → DatIn Φ v1 a → wpAny (model P C.w) C.A (g v1) (Got C X Φ ρ f (.dat r)) (fun zz1 zz2 => False) s
noncomputable def Tr (a : Dat) (b : Bool) : Prop :=
  ∀ C X Φ ρ f s v1, AtF C X Φ ρ f s → DatIn Φ v1 a → wpAny (model P C.w) C.A (truthy v1) (GotT C X Φ ρ f b) (fun zz1 zz2 => False) s

variable {l r e : Expr} {a b c : Dat} {op : Operator} {n : String}

theorem two {Q : Value → Value → Sem Value} {R : Value → Shared → Prop} {E : Value → Shared → Prop} (hl : EvJ C ρ l (.dat a)) (hr : EvJ C ρ r (.dat b))
    {f : Fm} (H : AtF C X Φ ρ f s) (h : ∀ Φ' s' v1 v2, (∀ p ∈ Φ, p ∈ Φ') → AtF C X Φ' ρ f s' → DatIn Φ' v1 a → DatIn Φ' v2 b → wpAny (model P C.w) C.A (Q v1 v2) R E s') :
    wpAny (model P C.w) C.A (eval l C.env) (fun v1 s1 => wpAny (model P C.w) C.A (eval r C.env) (fun v2 s2 => wpAny (model P C.w) C.A (Q v1 v2) R E s2) E s1) E s := by
  refine ff (wpAny_mono (hl X Φ f s H) (fun v1 s1 ⟨Φ1, g1, H1, i1⟩ => ?_) fun zz1 zz2 f => f)
  refine ff (wpAny_mono (hr X Φ1 f s1 H1) (fun v2 s2 ⟨Φ2, g2, H2, i2⟩ => ?_) fun zz1 zz2 f => f)
  exact h Φ2 s2 v1 v2 (fun p hp => g2 p (g1 p hp)) H2 (DatIn.mono g2 i1) i2

theorem EvJ.binop (hl : EvJ C ρ l (.dat a)) (hr : EvJ C ρ r (.dat b)) (h : Op2 (binaryOp op) a b c) : EvJ C ρ (.BinOp l op r pos) (.dat c) := fun X Φ f s H =>
  wpAny_BinOp (two hl hr H fun Φ' s' v1 v2 g H' i1 i2 => wpAny_mono (h C X Φ' ρ f s' v1 v2 H' i1 i2) (fun v s2 ⟨Φ2, g2, H2, i⟩ => ⟨Φ2, fun p hp => g2 p (g p hp), H2, i⟩) fun zz1 zz2 f => f)
theorem EvJ.cmp {cop : CmpOp} (hl : EvJ C ρ l (.dat a)) (hr : EvJ C ρ r (.dat b)) (h : Op2 (compareOp cop) a b c) (hm : behindInMarks cop r = false := by with_unfolding_all rfl) : EvJ C ρ (.Compare l [cop] [r] pos) (.dat c) := fun X Φ f s H =>
  wpAny_Compare1 (two hl hr H fun Φ' s' v1 v2 g H' i1 i2 => wpAny_mono (h C X Φ' ρ f s' v1 v2 H' i1 i2) (fun v s2 ⟨Φ2, g2, H2, i⟩ => ⟨Φ2, fun p hp => g2 p (g p hp), H2, i⟩) fun zz1 zz2 f => f) hm
theorem EvJ.unop {uop : UnaryOp} (hl : EvJ C ρ l (.dat a)) (h : Op1 (unaryOp uop) a c) : EvJ C ρ (.UnaryOp uop l pos) (.dat c) := fun X Φ f s H =>
  UnaryOp_ (wpAny_mono (hl X Φ f s H) (fun v1 s1 ⟨Φ1, g1, H1, i1⟩ => wpAny_mono (h C X Φ1 ρ f s1 v1 H1 i1) (fun v s2 ⟨Φ2, g2, H2, i⟩ => ⟨Φ2, fun p hp => g2 p (g1 p hp), H2, i⟩) fun zz1 zz2 f => f) fun zz1 zz2 f => f)

theorem TvJ.val {t : Bool} (hl : EvJ C ρ e (.dat a)) (h : Tr a t)
    (he : isTrue e C.env (eval e C.env) = (do let v ← eval e C.env; standAt e.pos; holding [v] (truthy v)) := by rfl) : TvJ C ρ e t := fun X Φ f s H => by
  refine isTrue_plain (wpAny_mono (hl X Φ f s H) (fun v1 s1 ⟨Φ1, g1, H1, i1⟩ => wpAny_mono (h C X Φ1 ρ f s1 v1 H1 i1) (fun v s2 ⟨e1, Φ2, g2, H2⟩ => ⟨e1, Φ2, fun p hp => g2 p (g1 p hp), H2⟩) fun zz1 zz2 f => f) fun zz1 zz2 f => f) he
theorem TvJ.cmp {cop : CmpOp} {t : Bool} (hl : EvJ C ρ l (.dat a)) (hr : EvJ C ρ r (.dat b)) (h : Op2 (compareOp cop) a b (.bool t)) (hm : behindInMarks cop r = false := by with_unfolding_all rfl) : TvJ C ρ (.Compare l [cop] [r] pos) t := fun X Φ f s H =>
  wpAny_isTrue_Compare1 (two (Q := compareOp cop) hl hr H fun Φ' s' v1 v2 g H' i1 i2 => wpAny_mono (h C X Φ' ρ f s' v1 v2 H' i1 i2) (fun v s2 ⟨Φ2, g2, H2, i⟩ => by
    cases i
    exact wpAny_truthy_bool ⟨rfl, Φ2, fun p hp => g2 p (g p hp), H2⟩) fun zz1 zz2 f => f) hm
theorem TvJ.notT {t : Bool} (h : TvJ C ρ e t) : TvJ C ρ (.UnaryOp .Not e pos) (!t) := fun X Φ f s H =>
  isTrue_not (wpAny_mono (h X Φ f s H) (fun v s' ⟨e1, Φ1, g1, H1⟩ => ⟨by rw [e1], Φ1, g1, H1⟩) fun zz1 zz2 f => f)
theorem TvJ.andNil : TvJ C ρ (.BoolOp .And [] pos) true := fun X Φ f s H => isTrue_and_nil ⟨rfl, Φ, fun zz1 h => h, H⟩
theorem TvJ.orNil : TvJ C ρ (.BoolOp .Or [] pos) false := fun X Φ f s H => isTrue_or_nil ⟨rfl, Φ, fun zz1 h => h, H⟩
theorem TvJ.andT {rest : List Expr} {t u : Bool} (h1 : TvJ C ρ e t) (h2 : t = true → TvJ C ρ (.BoolOp .And rest pos) u) : TvJ C ρ (.BoolOp .And (e :: rest) pos) (t && u) := fun X Φ f s H =>
  isTrue_and (wpAny_mono (h1 X Φ f s H) (fun v s' ⟨e1, Φ1, g1, H1⟩ => by
    subst e1
    cases v with
    | true => exact wpAny_mono (h2 rfl X Φ1 f s' H1) (fun v2 s2 ⟨e2, Φ2, g2, H2⟩ => ⟨by rw [e2]; rfl, Φ2, fun p hp => g2 p (g1 p hp), H2⟩) fun zz1 zz2 f => f
    | false => exact ⟨rfl, Φ1, g1, H1⟩) fun zz1 zz2 f => f)
theorem TvJ.orT {rest : List Expr} {t u : Bool} (h1 : TvJ C ρ e t) (h2 : t = false → TvJ C ρ (.BoolOp .Or rest pos) u) : TvJ C ρ (.BoolOp .Or (e :: rest) pos) (t || u) := fun X Φ f s H =>
  isTrue_or (wpAny_mono (h1 X Φ f s H) (fun v s' ⟨e1, Φ1, g1, H1⟩ => by
    subst e1
    cases v with
    | false => exact wpAny_mono (h2 rfl X Φ1 f s' H1) (fun v2 s2 ⟨e2, Φ2, g2, H2⟩ => ⟨by rw [e2]; rfl, Φ2, fun p hp => g2 p (g1 p hp), H2⟩) fun zz1 zz2 f => f
    | true => exact ⟨rfl, Φ1, g1, H1⟩) fun zz1 zz2 f => f)

theorem EvJ.iteE {t : Bool} {av₁ : AV} (ht : TvJ C ρ e t) (h1 : t = true → EvJ C ρ l av₁) (h2 : t = false → EvJ C ρ r av₁) : EvJ C ρ (.IfExp e l r pos) av₁ := fun X Φ f s H =>
  IfExp_ (wpAny_mono (ht X Φ f s H) (fun v s' ⟨e1, Φ1, g1, H1⟩ => by
    subst e1
    cases v with
    | true => exact wpAny_mono (h1 rfl X Φ1 f s' H1) (fun v2 s2 h => h.up g1) fun zz1 zz2 f => f
    | false => exact wpAny_mono (h2 rfl X Φ1 f s' H1) (fun v2 s2 h => h.up g1) fun zz1 zz2 f => f) fun zz1 zz2 f => f)

theorem EvJ.andE {e₂ : Expr} {rest : List Expr} {t : Bool} (h1 : EvJ C ρ e (.dat a)) (ht : Tr a t) (h2 : t = true → EvJ C ρ (.BoolOp .And (e₂ :: rest) pos) (.dat c)) (h3 : t = false → a = c) : EvJ C ρ (.BoolOp .And (e :: e₂ :: rest) pos) (.dat c) := fun X Φ f s H =>
  BoolOp_and (wpAny_mono (h1 X Φ f s H) (fun v1 s1 ⟨Φ1, g1, H1, i1⟩ => wpAny_mono (ht C X Φ1 ρ f s1 v1 H1 i1) (fun v s2 ⟨e1, Φ2, g2, H2⟩ => by
    subst e1
    cases v with
    | true => exact wpAny_mono (h2 rfl X Φ2 f s2 H2) (fun v3 s3 h => (h.up g2).up g1) fun zz1 zz2 f => f
    | false => exact ⟨Φ2, fun p hp => g2 p (g1 p hp), H2, h3 rfl ▸ DatIn.mono g2 i1⟩) fun zz1 zz2 f => f) fun zz1 zz2 f => f)
theorem EvJ.orE {e₂ : Expr} {rest : List Expr} {t : Bool} (h1 : EvJ C ρ e (.dat a)) (ht : Tr a t) (h2 : t = false → EvJ C ρ (.BoolOp .Or (e₂ :: rest) pos) (.dat c)) (h3 : t = true → a = c) : EvJ C ρ (.BoolOp .Or (e :: e₂ :: rest) pos) (.dat c) := fun X Φ f s H =>
  BoolOp_or (wpAny_mono (h1 X Φ f s H) (fun v1 s1 ⟨Φ1, g1, H1, i1⟩ => wpAny_mono (ht C X Φ1 ρ f s1 v1 H1 i1) (fun v s2 ⟨e1, Φ2, g2, H2⟩ => by
    subst e1
    cases v with
    | false => exact wpAny_mono (h2 rfl X Φ2 f s2 H2) (fun v3 s3 h => (h.up g2).up g1) fun zz1 zz2 f => f
    | true => exact ⟨Φ2, fun p hp => g2 p (g1 p hp), H2, h3 rfl ▸ DatIn.mono g2 i1⟩) fun zz1 zz2 f => f) fun zz1 zz2 f => f)
theorem EvJ.oneE {bop : BoolOp} (h : EvJ C ρ e av) : EvJ C ρ (.BoolOp bop [e] pos) av := h

/-! statements -/
variable {Q : Out → Prop} {st : Stmt} {body els : List Stmt}
theorem SxJ.ret (h : EvJ C ρ e av) (hq : Q (.ret av)) : SxJ C ρ (.Return (some e) pos) Q := fun X Φ f s H =>
  wpAny_Return_some (ff (wpAny_mono (h X Φ f s H) (fun v s' ⟨Φ1, g1, H1, i1⟩ => ⟨Φ1, .ret av, g1, hq, (AtM.sub H1 .nil).at, i1⟩) fun zz1 zz2 f => f))
theorem SxJ.ifs {t : Bool} (ht : TvJ C ρ e t) (h1 : t = true → ExJ C ρ body Q) (h2 : t = false → ExJ C ρ els Q) : SxJ C ρ (.If e body els pos) Q := fun X Φ f s H =>
  wpAny_If (ff (wpAny_mono (ht X Φ f s H) (fun v s' ⟨e1, Φ1, g1, H1⟩ => by
    subst e1
    cases v with
    | true => exact wpAny_mono (h1 rfl X Φ1 f s' H1) (fun zz1 zz2 g => g.up g1) (fun zz1 zz2 g => g.up g1)
    | false => exact wpAny_mono (h2 rfl X Φ1 f s' H1) (fun zz1 zz2 g => g.up g1) (fun zz1 zz2 g => g.up g1)) fun zz1 zz2 f => f))
theorem SxJ.pass (h : Q (.next ρ)) : SxJ C ρ (.Pass pos) Q := fun X Φ f s H => wpAny_Pass ⟨Φ, .next ρ, fun zz1 h => h, h, H.at⟩
theorem SxJ.brk (h : Q (.brk ρ)) : SxJ C ρ (.Break pos) Q := fun X Φ f s H => wpAny_Break ⟨Φ, .brk ρ, fun zz1 h => h, h, H.at⟩
theorem SxJ.cont (h : Q (.cont ρ)) : SxJ C ρ (.Continue pos) Q := fun X Φ f s H => wpAny_Continue ⟨Φ, .cont ρ, fun zz1 h => h, h, H.at⟩
end
end Mine
end
section
open PySem PySem.W PySem.Calls PyProof.Rows PyProof.V
namespace Mine

theorem lookup_filter_ne {α : Type} (x : Str) : ∀ (l : List (Str × α)) (y : Str), (l.filter fun p => !(p.1 == x)).lookup y = if y = x then none else l.lookup y
  | [], y => by simp
  | (k, a) :: r, y => by
    have ih := lookup_filter_ne x r y
    by_cases hk : k = x
    · subst hk
      simp only [List.filter_cons, beq_self_eq_true, Bool.not_true, Bool.false_eq_true, if_false, List.lookup_cons]
      rw [ih]
      by_cases hy : y = k
      · simp [hy]
      · have : (y == k) = false := beq_eq_false_iff_ne.mpr hy
        simp [hy, this]
    · have hb : (k == x) = false := beq_eq_false_iff_ne.mpr hk
      simp only [List.filter_cons, hb, Bool.not_false, if_true, List.lookup_cons]
      by_cases hyk : y = k
      · subst hyk; simp [hk]
      · have : (y == k) = false := beq_eq_false_iff_ne.mpr hyk
        simp only [this]
        exact ih

section
variable {C : Cx} {X Φ Φ' : Led} {ρ ρ' : Loc} {m : Str → Option Value} {ow : List OwnE} {s s' : Shared} {x : Str} {pos : Pos} {av : AV} {v : Value} {k : Nat}

noncomputable def dropO (x : Str) (ow : List OwnE) : List OwnE := ow.filter fun q => !(q.nm == x)
theorem mem_dropO {q : OwnE} : q ∈ dropO x ow ↔ q ∈ ow ∧ q.nm ≠ x := by
  unfold dropO
  rw [List.mem_filter]
  simp [bne_iff_ne]
theorem muts_drop {a : Addr} (h : a ∈ muts C (dropO x ow)) : a ∈ muts C ow := by
  rcases List.mem_cons.mp h with h | h
  · exact h ▸ .head _
  · refine .tail _ ?_
    rcases List.mem_append.mp h with h | h
    · exact List.mem_append_left _ h
    · obtain ⟨q, hq, e⟩ := List.mem_map.mp h
      exact List.mem_append_right _ (List.mem_map.mpr ⟨q, (mem_dropO.mp hq).1, e⟩)
theorem dropO_sub : List.Sublist (dropO x ow) ow := List.filter_sublist
theorem muts_sub : List.Sublist (muts C (dropO x ow)) (muts C ow) := by
  unfold muts
  exact List.Sublist.cons_cons _ (List.Sublist.append (List.Sublist.refl _) (dropO_sub.map _))

theorem AtM.drop (H : AtM C X Φ ρ m ow s) (x : Str) : AtM C X Φ (ρ.filter fun p => !(p.1 == x)) m (dropO x ow) s where
  ok := H.ok
  fr := H.fr
  baseIn := H.baseIn
  keep := H.keep
  stk := H.stk
  led := H.led
  seq := H.seq
  ledm := fun p hp q => H.ledm p hp (muts_drop q)
  xtr := H.xtr
  xtrm := fun p hp => ⟨fun q => (H.xtrm p hp).1 (muts_drop q), (H.xtrm p hp).2⟩
  xled := H.xled
  xnew := H.xnew
  xcel := H.xcel
  xnd := H.xnd
  src := H.src
  own := fun q hq => H.own q (mem_dropO.mp hq).1
  cells := H.cells
  nodup := List.Nodup.sublist muts_sub H.nodup
  nms := List.Nodup.sublist (dropO_sub.map _) H.nms
  fresh := fun a ha => H.fresh a (muts_drop ha)
  loc := fun y av e => by
    rw [lookup_filter_ne] at e
    by_cases hy : y = x
    · rw [if_pos hy] at e; cases e
    · rw [if_neg hy] at e
      obtain ⟨v, hs, hr⟩ := H.loc y av e
      refine ⟨v, hs, ?_⟩
      cases av with
      | dat d => exact hr
      | val u => exact hr
      | own ds =>
        obtain ⟨q, hq, hn, r⟩ := hr
        exact ⟨q, mem_dropO.mpr ⟨hq, by rw [hn]; exact hy⟩, hn, r⟩
  gens := H.gens
  os := H.os

theorem lookup_drop_cons {l : Loc} {y : Str} : ((x, av) :: l.filter fun p => !(p.1 == x)).lookup y = ((x, av) :: l).lookup y := by
  simp only [List.lookup_cons, lookup_filter_ne]
  by_cases hy : y = x
  · simp [hy]
  · have : (y == x) = false := beq_eq_false_iff_ne.mpr hy
    simp [this, hy]
theorem AtM.undrop (H : AtM C X Φ ((x, av) :: ρ.filter fun p => !(p.1 == x)) m ow s) : AtM C X Φ ((x, av) :: ρ) m ow s :=
  { H with loc := fun y b e => H.loc y b (by rw [lookup_drop_cons]; exact e) }

theorem AtM.ne_loc (H : AtM C X Φ ρ m ow s) {a : Addr} {o : Obj} (ho : s.heap.get? a = some o) (hd : ∀ es n, o.data ≠ .dict es n) : a ≠ C.env.locals := fun e => by
  obtain ⟨o', es, n, ho', hd', _⟩ := H.fr.ns
  rw [e, ho'] at ho; cases ho
  exact hd es n hd'
theorem AtM.cell_ne_loc (H : AtM C X Φ ρ m ow s) {c : Addr} {w : Option Value} (hi : s.heap.IsCell c w) : c ≠ C.env.locals := by
  obtain ⟨o, ho, hd⟩ := hi
  exact H.ne_loc ho fun es n e => by rw [hd] at e; cases e

theorem AtM.setL (H : AtM C X Φ ρ m ow s) (hx : ∀ b, ρ.lookup x ≠ some b) (hk : C.env.kindOf x = some .local) (hr : LRel Φ ow x v av) {h' : Heap} {t : Nat}
    (hn : h'.Ns C.env.locals (fun y => if y = x then some v else m y)) (hs : Heap.SameBut C.env.locals s.heap h') :
    AtM C X Φ ((x, av) :: ρ) (fun y => if y = x then some v else m y) ow { s with heap := h', toks := t } where
  ok := H.ok
  fr := H.fr.set hn hs
  baseIn := H.baseIn
  keep := ⟨fun b o e n => by
      have hb : b ≠ C.env.locals := fun q => by have := H.fresh b (q ▸ .head _); rw [e] at this; cases this
      exact (hs.2 b hb).trans (H.keep.off b o e n), fun b o e => by
      have hb : b ≠ C.env.locals := fun q => by have := H.fresh b (q ▸ .head _); rw [e] at this; cases this
      obtain ⟨sl, e'⟩ := H.keep.on b o e
      exact ⟨sl, (hs.2 b hb).trans e'⟩⟩
  stk := fun env he => by
    obtain ⟨hk, L, o, es, n, hf, hb, ho, hd⟩ := H.stk env he
    by_cases hL : L = C.env.locals
    · obtain ⟨o', es', n', ho', hd', _⟩ := hn
      exact ⟨hk, L, o', es', n', hf, hb, by rw [hL]; exact ho', hd'⟩
    · exact ⟨hk, L, o, es, n, hf, hb, (hs.2 L hL).trans ho, hd⟩
  led := fun p hp => (hs.2 p.1 fun q => H.ledm p hp (q ▸ .head _)).trans (H.led p hp)
  seq := H.seq
  ledm := H.ledm
  xtr := fun p hp => (hs.2 p.1 fun q => (H.xtrm p hp).1 (q ▸ .head _)).trans (H.xtr p hp)
  xtrm := H.xtrm
  xled := H.xled
  xnew := H.xnew
  xcel := H.xcel
  xnd := H.xnd
  src := H.src
  own := fun q hq => (hs.2 q.ad (H.ne_loc (H.own q hq) fun es n e => by cases e)).trans (H.own q hq)
  cells := fun q hq => by
    obtain ⟨w, hi⟩ := H.cells q hq
    exact ⟨w, hi.sameBut hs (H.cell_ne_loc hi)⟩
  nodup := H.nodup
  nms := H.nms
  fresh := H.fresh
  loc := fun y b e => by
    simp only [List.lookup_cons] at e
    by_cases hy : y = x
    · subst hy
      simp only [beq_self_eq_true] at e
      cases e
      exact ⟨v, .inl ⟨hk, by simp⟩, hr⟩
    · have hb : (y == x) = false := beq_eq_false_iff_ne.mpr hy
      simp only [hb] at e
      obtain ⟨u, hs', hr'⟩ := H.loc y b e
      refine ⟨u, ?_, hr'⟩
      rcases hs' with ⟨h1, h2⟩ | ⟨h1, c, h2, h3⟩
      · exact .inl ⟨h1, by simp only [hy, if_false]; exact h2⟩
      · exact .inr ⟨h1, c, h2, h3.sameBut hs (H.cell_ne_loc h3)⟩
  gens := H.gens
  os := H.os

theorem AtM.setC (H : AtM C X Φ ρ m ow s) (hx : ∀ b, ρ.lookup x ≠ some b) (hk : C.env.kindOf x = some .cell) (hmc : C.mc = C.env.cells) {c : Addr} (hc : C.env.cells.lookup x = some c) (hr : LRel Φ ow x v av) {h' : Heap}
    (hn : h'.IsCell c (some v)) (hs : Heap.SameBut c s.heap h') : AtM C X Φ ((x, av) :: ρ) m ow { s with heap := h' } := by
  have hcm : (x, c) ∈ C.mc := by rw [hmc]; exact mem_lookup hc
  have hcm' : c ∈ muts C ow := .tail _ (List.mem_append_left _ (List.mem_map.mpr ⟨_, hcm, rfl⟩))
  obtain ⟨w0, hw0⟩ := H.cells _ hcm
  have hcL : c ≠ C.env.locals := H.cell_ne_loc hw0
  have hcs : c ∉ frs C.stk := by
    obtain ⟨o, ho, hd⟩ := hw0
    exact H.off_stk ho fun es n e => by rw [hd] at e; cases e
  have hh0 : ∀ b o, C.h₀.get? b = some o → b ≠ c := fun b o e q => by have := H.fresh b (q ▸ hcm'); rw [e] at this; cases this
  have hB : ∀ b o, C.hB.get? b = some o → b ≠ c := fun b o e q => by
    have h1 := H.fr.above
    have h2 := Heap.lt_size e
    obtain ⟨o', ho', hd⟩ := hw0
    have h3 := H.fr.keep b o e
    have hi : c < C.hB.objs.size := q ▸ h2
    have h4 := H.fresh c hcm'
    exact absurd (q ▸ e) (fun e2 => by
      have := H.baseIn c o e2
      rw [h4] at this
      cases this)
  have hown : ∀ q ∈ ow, q.ad ≠ c := fun q hq e => by
    have h1 := H.own q hq
    obtain ⟨o', ho', hd⟩ := hw0
    rw [e, ho'] at h1; cases h1; cases hd
  refine
    { ok := H.ok, baseIn := H.baseIn, fr := ⟨H.fr.ns.sameBut hs (Ne.symm hcL), fun b o e => (hs.2 b (hB b o e)).trans (H.fr.keep b o e), H.fr.above⟩
      keep := ⟨fun b o e n => (hs.2 b (hh0 b o e)).trans (H.keep.off b o e n), fun b o e => by
        obtain ⟨sl, e'⟩ := H.keep.on b o e
        exact ⟨sl, (hs.2 b (hh0 b o e)).trans e'⟩⟩
      stk := fun env he => ?_, led := fun p hp => (hs.2 p.1 fun q => H.ledm p hp (q ▸ hcm')).trans (H.led p hp), seq := H.seq, ledm := H.ledm
      xtr := fun p hp => (hs.2 p.1 fun q => (H.xtrm p hp).1 (q ▸ hcm')).trans (H.xtr p hp), xtrm := H.xtrm, xled := H.xled, xnew := H.xnew, xcel := H.xcel, xnd := H.xnd, src := H.src
      own := fun q hq => (hs.2 q.ad (hown q hq)).trans (H.own q hq)
      cells := fun q hq => ?_, nodup := H.nodup, nms := H.nms, fresh := H.fresh, loc := fun y b e => ?_, gens := H.gens, os := H.os }
  · obtain ⟨hk, L, o, es, n, hf, hb, ho, hd⟩ := H.stk env he
    exact ⟨hk, L, o, es, n, hf, hb, (hs.2 L fun q => hcs (q ▸ List.mem_filterMap.mpr ⟨env, he, hf⟩)).trans ho, hd⟩
  · by_cases hq : q.2 = c
    · exact ⟨some v, hq ▸ hn⟩
    · obtain ⟨w, hi⟩ := H.cells q ‹_›
      exact ⟨w, hi.sameBut hs hq⟩
  · simp only [List.lookup_cons] at e
    by_cases hy : y = x
    · subst hy
      simp only [beq_self_eq_true] at e
      cases e
      exact ⟨v, .inr ⟨.inl hk, c, hc, hn⟩, hr⟩
    · have hb : (y == x) = false := beq_eq_false_iff_ne.mpr hy
      simp only [hb] at e
      obtain ⟨u, hs', hr'⟩ := H.loc y b e
      refine ⟨u, ?_, hr'⟩
      rcases hs' with h1 | ⟨h1, c', h2, h3⟩
      · exact .inl h1
      · exact .inr ⟨h1, c', h2, h3.sameBut hs fun q => hy (H.ok.inj y x c (q ▸ h2) hc)⟩

inductive Kept (C : Cx) (x : Str) : Prop
  | loc (h : C.env.kindOf x = some .local) : Kept C x
  | cell (h : C.env.kindOf x = some .cell) (hm : C.mc = C.env.cells) : Kept C x

theorem AtM.store {Q : Unit → Shared → Prop} {E : Value → Shared → Prop} {M : Model} {A : Around} (H : AtM C X Φ ρ m ow s) (hx : ∀ b, ρ.lookup x ≠ some b) (hk : Kept C x) (hr : LRel Φ ow x v av)
    (hq : ∀ s' m', AtM C X Φ ((x, av) :: ρ) m' ow s' → Q () s') : wpAny M A (storeName C.env x v) Q E s := by
  cases hk with
  | loc h => exact wpAny_storeName_local h H.fr.ns (fun h' hn hs => hq _ _ (H.setL hx h hr hn hs)) (by rw [H.ok.kind]; rfl)
  | cell h hm =>
    obtain ⟨c, hc⟩ := H.ok.cel x h
    obtain ⟨w0, hw0⟩ := H.cells (x, c) (hm ▸ mem_lookup hc)
    exact wpAny_storeName_cell H.ok.kind h hc hw0 fun h' hn hs => hq _ _ (H.setC hx h hm hc hr hn hs)
theorem AtM.put {Q : Unit → Shared → Prop} {E : Value → Shared → Prop} {M : Model} {A : Around} (H : AtM C X Φ ρ m ow s) (hk : Kept C x) (hr : av.In Φ v)
    (hq : ∀ s', At C X Φ ((x, av) :: ρ) s' → Q () s') : wpAny M A (storeName C.env x v) Q E s := by
  refine (H.drop x).store (fun b e => by rw [lookup_filter_ne, if_pos rfl] at e; cases e) hk (av := av) ?_ fun s' m' H' => hq s' H'.undrop.at
  cases av with
  | dat d => exact hr
  | val u => exact hr
  | own ds => exact hr.elim

variable {e : Expr} {Q : Out → Prop}
theorem SxJ.assign {px : Pos} (h : EvJ C ρ e av) (hk : Kept C x) (hq : Q (.next ((x, av) :: ρ))) (hs : swapsWith e (some (.Name x px)) pos.line C.env = pure false := by rfl) : SxJ C ρ (.Assign [.Name x px] e pos) Q := fun X Φ f s H =>
  wpAny_Assign_Name (ff (wpAny_mono (h X Φ f s H) (fun v s' ⟨Φ1, g1, H1, i1⟩ => AtM.put H1 hk i1 fun s2 H2 => ⟨Φ1, .next _, g1, hq, H2⟩) fun zz1 zz2 f => f)) hs
end
end Mine
end
section
open PySem PySem.W PySem.Calls PyProof.Rows PyProof.V
namespace Mine

section
variable {C : Cx} {X Φ Φ' : Led} {ρ ρ' : Loc} {m : Str → Option Value} {ow : List OwnE} {s s' : Shared} {x : Str} {pos : Pos} {av : AV} {v : Value} {k : Nat} {ds : List Dat}

noncomputable def updO (x : Str) (vs : List Value) (n : Nat) (ow : List OwnE) : List OwnE := ow.map fun r => if r.nm = x then ⟨x, r.ad, vs, n⟩ else r
theorem updO_ad {vs : List Value} {n : Nat} : (updO x vs n ow).map (·.ad) = ow.map (·.ad) := by
  unfold updO; rw [List.map_map]; congr 1; funext r; simp only [Function.comp]; split <;> rfl
theorem updO_nm {vs : List Value} {n : Nat} : (updO x vs n ow).map (·.nm) = ow.map (·.nm) := by
  unfold updO; rw [List.map_map]; congr 1; funext r; simp only [Function.comp]; split <;> simp_all
theorem muts_upd {vs : List Value} {n : Nat} : muts C (updO x vs n ow) = muts C ow := by unfold muts; rw [updO_ad]
theorem mem_of_nm {q r : OwnE} : ∀ {l : List OwnE}, (l.map (·.nm)).Nodup → q ∈ l → r ∈ l → q.nm = r.nm → q = r
  | a :: l, hn, hq, hr, e => by
    rw [List.map_cons, List.nodup_cons] at hn
    rcases List.mem_cons.mp hq with q1 | q1 <;> rcases List.mem_cons.mp hr with r1 | r1
    · rw [q1, r1]
    · exact absurd (q1 ▸ e ▸ List.mem_map.mpr ⟨r, r1, rfl⟩) hn.1
    · exact absurd (r1 ▸ e ▸ List.mem_map.mpr ⟨q, q1, rfl⟩) hn.1
    · exact mem_of_nm hn.2 q1 r1 e
theorem ad_inj {q r : OwnE} : ∀ {l : List OwnE}, (l.map (·.ad)).Nodup → q ∈ l → r ∈ l → q.ad = r.ad → q = r
  | a :: l, hn, hq, hr, e => by
    rw [List.map_cons, List.nodup_cons] at hn
    rcases List.mem_cons.mp hq with q1 | q1 <;> rcases List.mem_cons.mp hr with r1 | r1
    · rw [q1, r1]
    · exact absurd (q1 ▸ e ▸ List.mem_map.mpr ⟨r, r1, rfl⟩) hn.1
    · exact absurd (r1 ▸ e ▸ List.mem_map.mpr ⟨q, q1, rfl⟩) hn.1
    · exact ad_inj hn.2 q1 r1 e
theorem AtM.ads (H : AtM C X Φ ρ m ow s) : (ow.map (·.ad)).Nodup := by
  have := H.nodup
  unfold muts at this
  exact (List.nodup_append.mp (List.nodup_cons.mp this).2).2.1

theorem AtM.owned (H : AtM C X Φ ρ m ow s) (e : ρ.lookup x = some (.own ds)) : ∃ q ∈ ow, q.nm = x ∧ Stored C.env s.heap m x (.ref q.ad) ∧ DatAll Φ q.vs ds ∧ s.heap.get? q.ad = some (listOf q.vs.toArray q.n) := by
  obtain ⟨v, hs, q, hq, hn, rfl, hd⟩ := H.loc x _ e
  exact ⟨q, hq, hn, hs, hd, H.own q hq⟩

theorem AtM.turn {q : OwnE} {f : Array Value → Array Value} {vs' : List Value} {ds' : List Dat} {t : Nat} (H : AtM C X Φ ρ m ow s) (hs : Stored C.env s.heap m x (.ref q.ad)) (hq : q ∈ ow) (hx : q.nm = x)
    (hf : f q.vs.toArray = vs'.toArray) (hd : DatAll Φ vs' ds') :
    ∃ n', AtM C X Φ ((x, .own ds') :: ρ) m (updO x vs' n' ow) { s with heap := s.heap.update q.ad (Obj.mapSeq f), toks := t } := by
  have hg := get?_update_seq (H.own q hq) f
  rw [hf] at hg
  refine ⟨if (vs'.toArray.size == q.vs.toArray.size) = true then q.n else q.n + 1, ?_⟩
  have hsb : Heap.SameBut q.ad s.heap (s.heap.update q.ad (Obj.mapSeq f)) := Heap.SameBut.update ..
  have hqm : q.ad ∈ muts C ow := .tail _ (List.mem_append_right _ (List.mem_map.mpr ⟨q, hq, rfl⟩))
  have hL : C.env.locals ≠ q.ad := fun e => H.ne_loc (H.own q hq) (fun es n e => by cases e) e.symm
  have h0 : ∀ b o, C.h₀.get? b = some o → b ≠ q.ad := fun b o e q' => by have := H.fresh b (q' ▸ hqm); rw [e] at this; cases this
  have hfs : q.ad ∉ frs C.stk := H.off_stk (H.own q hq) fun es n e => by cases e
  have hcell : ∀ {c w}, s.heap.IsCell c w → c ≠ q.ad := fun {c w} hi e => by
    obtain ⟨o, ho, hd⟩ := hi
    rw [e, H.own q hq] at ho; cases ho; cases hd
  refine
    { ok := H.ok, fr := ⟨H.fr.ns.sameBut hsb hL, fun b o e => (hsb.2 b (h0 b o (H.baseIn b o e))).trans (H.fr.keep b o e), H.fr.above⟩, baseIn := H.baseIn
      keep := ⟨fun b o e n => (hsb.2 b (h0 b o e)).trans (H.keep.off b o e n), fun b o e => by
        obtain ⟨sl, e'⟩ := H.keep.on b o e
        exact ⟨sl, (hsb.2 b (h0 b o e)).trans e'⟩⟩
      stk := fun env he => ?_, led := fun p hp => (hsb.2 p.1 fun e => H.ledm p hp (e ▸ hqm)).trans (H.led p hp), seq := H.seq, ledm := by rw [muts_upd]; exact H.ledm
      xtr := fun p hp => (hsb.2 p.1 fun e => (H.xtrm p hp).1 (e ▸ hqm)).trans (H.xtr p hp), xtrm := by rw [muts_upd]; exact H.xtrm, xled := H.xled, xnew := H.xnew, xcel := H.xcel, xnd := H.xnd, src := H.src
      own := fun r hr => ?_, cells := fun r hr => ?_, nodup := by rw [muts_upd]; exact H.nodup, nms := by rw [updO_nm]; exact H.nms, fresh := by rw [muts_upd]; exact H.fresh, loc := fun y b e => ?_, gens := H.gens, os := H.os }
  · obtain ⟨hk, L, o, es, n, hf, hb, ho, hd⟩ := H.stk env he
    exact ⟨hk, L, o, es, n, hf, hb, (hsb.2 L fun e => hfs (e ▸ List.mem_filterMap.mpr ⟨env, he, hf⟩)).trans ho, hd⟩
  · obtain ⟨r0, hr0, rfl⟩ := List.mem_map.mp hr
    by_cases h : r0.nm = x
    · have : r0 = q := mem_of_nm H.nms hr0 hq (h.trans hx.symm)
      subst this
      rw [if_pos h]
      exact hg
    · rw [if_neg h]
      exact (hsb.2 r0.ad fun e => h ((ad_inj H.ads hr0 hq e) ▸ hx)).trans (H.own r0 hr0)
  · obtain ⟨w, hi⟩ := H.cells r hr
    exact ⟨w, hi.sameBut hsb (hcell hi)⟩
  · have stored : ∀ {y v}, Stored C.env s.heap m y v → Stored C.env (s.heap.update q.ad (Obj.mapSeq f)) m y v := fun {y v} S => by
      rcases S with S | ⟨hk, c, hc, hi⟩
      · exact .inl S
      · exact .inr ⟨hk, c, hc, hi.sameBut hsb (hcell hi)⟩
    simp only [List.lookup_cons] at e
    by_cases hy : y = x
    · subst hy
      simp only [beq_self_eq_true] at e
      cases e
      exact ⟨_, stored hs, ⟨y, q.ad, vs', _⟩, List.mem_map.mpr ⟨q, hq, by rw [if_pos hx]⟩, rfl, rfl, hd⟩
    · have hb : (y == x) = false := beq_eq_false_iff_ne.mpr hy
      simp only [hb] at e
      obtain ⟨u, hs', hr'⟩ := H.loc y b e
      refine ⟨u, stored hs', ?_⟩
      cases b with
      | dat d => exact hr'
      | val w => exact hr'
      | own es =>
        obtain ⟨r, hr, hn, hv, hD⟩ := hr'
        exact ⟨r, List.mem_map.mpr ⟨r, hr, by rw [if_neg (by rw [hn]; exact hy)]⟩, hn, hv, hD⟩

theorem AtM.freeze (H : AtM C X Φ ρ m ow s) (e : ρ.lookup x = some (.own ds)) : ∃ p, AtM C X (p :: Φ) ((x, .dat (.list ds)) :: ρ) m (dropO x ow) s := by
  obtain ⟨q, hq, hn, hs, hd, ho⟩ := H.owned e
  refine ⟨(q.ad, listOf q.vs.toArray q.n), ?_⟩
  have D := H.drop x
  have sub : ∀ p ∈ Φ, p ∈ (q.ad, listOf q.vs.toArray q.n) :: Φ := fun p hp => .tail _ hp
  have hqm : q.ad ∈ muts C ow := .tail _ (List.mem_append_right _ (List.mem_map.mpr ⟨q, hq, rfl⟩))
  have nq : q.ad ∉ muts C (dropO x ow) := fun hm => by
    have hL : q.ad ≠ C.env.locals := H.ne_loc ho fun es n e => by cases e
    rcases List.mem_cons.mp hm with h | h
    · exact hL h
    · rcases List.mem_append.mp h with h | h
      · obtain ⟨c, hc, hce⟩ := List.mem_map.mp h
        obtain ⟨w, o', ho', hd'⟩ := H.cells c hc
        rw [hce, ho] at ho'; cases ho'; cases hd'
      · obtain ⟨r, hr, he⟩ := List.mem_map.mp h
        have hr' := mem_dropO.mp hr
        exact hr'.2 ((ad_inj H.ads hr'.1 hq he) ▸ hn)
  refine AtM.undrop
    { ok := H.ok, fr := H.fr, baseIn := H.baseIn, keep := H.keep, stk := H.stk, led := fun p hp => ?_, seq := fun p hp => ?_, ledm := fun p hp => ?_, xtr := H.xtr, xtrm := D.xtrm, xled := fun p hp q hq => ?_, xnew := H.xnew, xcel := H.xcel, xnd := H.xnd, src := fun p hp => ?_, own := D.own
      cells := D.cells, nodup := D.nodup, nms := D.nms, fresh := D.fresh, loc := fun y b e' => ?_, gens := H.gens, os := H.os }
  · rcases List.mem_cons.mp hp with rfl | hp
    · exact ho
    · exact H.led p hp
  · rcases List.mem_cons.mp hp with rfl | hp
    · exact ⟨_, _, rfl⟩
    · exact H.seq p hp
  · rcases List.mem_cons.mp hp with rfl | hp
    · exact nq
    · exact D.ledm p hp
  · rcases List.mem_cons.mp hq with rfl | hq
    · exact fun e => (H.xtrm p hp).1 (e ▸ hqm)
    · exact H.xled p hp q hq
  · rcases List.mem_cons.mp hp with rfl | hp
    · exact .inr (H.fresh _ hqm)
    · exact H.src p hp
  · simp only [List.lookup_cons] at e'
    by_cases hy : y = x
    · subst hy
      simp only [beq_self_eq_true] at e'
      cases e'
      exact ⟨_, hs, DatIn.list (.head _) (hd.mono sub)⟩
    · have hb : (y == x) = false := beq_eq_false_iff_ne.mpr hy
      simp only [hb] at e'
      obtain ⟨u, hs', hr'⟩ := D.loc y b e'
      exact ⟨u, hs', hr'.mono sub⟩
theorem ExJ.freeze {b : List Stmt} {Q : Out → Prop} (x : Str) (e : ρ.lookup x = some (.own ds)) (h : ExJ C ((x, .dat (.list ds)) :: ρ) b Q) : ExJ C ρ b Q := fun X Φ f s H => by
  obtain ⟨p, H'⟩ := AtM.freeze H e
  exact wpAny_mono (h X (p :: Φ) ⟨f.m, dropO x f.ow⟩ s H') (fun zz1 zz2 g => g.up fun p hp => .tail _ hp) fun zz1 zz2 g => g.up fun p hp => .tail _ hp

theorem AtM.adopt (H : AtM C X Φ ρ m ow s) (hx : ∀ q ∈ ow, q.nm ≠ x) {vs : List Value} {t : Nat} :
    AtM C X Φ ρ m (⟨x, s.heap.objs.size, vs, 0⟩ :: ow) { s with heap := s.heap.push (listOf vs.toArray 0), toks := t } := by
  have G := H.garbage (listOf vs.toArray 0) t
  have new : ∀ {a o}, s.heap.get? a = some o → a ≠ s.heap.objs.size := fun {a o} e => Nat.ne_of_lt (Heap.lt_size e)
  have nm : s.heap.objs.size ∉ muts C ow := fun h => by
    obtain ⟨o, ho⟩ := H.some_of_mut h
    exact new ho rfl
  have perm : ∀ a, a ∈ muts C (⟨x, s.heap.objs.size, vs, 0⟩ :: ow) → a = s.heap.objs.size ∨ a ∈ muts C ow := fun a ha => by
    unfold muts at ha ⊢
    simp only [List.map_cons, List.mem_cons, List.mem_append] at ha ⊢
    rcases ha with h | h | h | h
    · exact .inr (.inl h)
    · exact .inr (.inr (.inl h))
    · exact .inl h
    · exact .inr (.inr (.inr h))
  refine { G with ledm := fun p hp h => ?_, xtrm := fun p hp => ⟨fun h => ?_, (H.xtrm p hp).2⟩, own := fun q hq => ?_, nodup := ?_, nms := ?_, fresh := fun a ha => ?_, loc := fun y b e => ?_ }
  · rcases perm _ h with h | h
    · exact new (H.led p hp) h
    · exact H.ledm p hp h
  · rcases perm _ h with h | h
    · exact new (H.xtr p hp) h
    · exact (H.xtrm p hp).1 h
  · rcases List.mem_cons.mp hq with rfl | hq
    · exact Heap.get?_push_size _ rfl
    · exact G.own q hq
  · have h1 := H.nodup
    unfold muts at h1 nm ⊢
    simp only [List.map_cons]
    rw [List.nodup_cons] at h1 ⊢
    simp only [List.mem_cons, List.mem_append, not_or] at h1 nm ⊢
    refine ⟨⟨h1.1.1, Ne.symm nm.1, h1.1.2⟩, ?_⟩
    have h2 := List.nodup_append.mp h1.2
    refine List.nodup_append.mpr ⟨h2.1, List.nodup_cons.mpr ⟨nm.2.2, h2.2.1⟩, fun a ha b hb => ?_⟩
    rcases List.mem_cons.mp hb with rfl | hb
    · exact fun e => nm.2.1 (e ▸ ha)
    · exact h2.2.2 a ha b hb
  · rw [List.map_cons, List.nodup_cons]
    exact ⟨fun h => by
      obtain ⟨q, hq, e⟩ := List.mem_map.mp h
      exact hx q hq e, H.nms⟩
  · rcases perm _ ha with h | h
    · cases e : C.h₀.get? a with
      | none => rfl
      | some o =>
        obtain ⟨sl, e'⟩ := H.keep.on _ _ e
        exact absurd h (new e')
    · exact H.fresh a h
  · obtain ⟨u, hs, hr⟩ := G.loc y b e
    refine ⟨u, hs, ?_⟩
    cases b with
    | dat d => exact hr
    | val w => exact hr
    | own es =>
      obtain ⟨q, hq, r⟩ := hr
      exact ⟨q, .tail _ hq, r⟩

theorem filter_lookup_none (b : AV) : (ρ.filter fun p => !(p.1 == x)).lookup x ≠ some b := by
  rw [lookup_filter_ne, if_pos rfl]
  exact fun e => by cases e

variable {e : Expr} {Q : Out → Prop}
theorem SxJ.assignNil {px p : Pos} (hk : Kept C x) (hq : Q (.next ((x, .own []) :: ρ))) : SxJ C ρ (.Assign [.Name x px] (.List [] p) pos) Q := fun X Φ f s H => by
  refine wpAny_Assign_Name (List_ (spliced_nil (wpAny_newList ?_))) rfl
  have D := AtM.adopt (H.drop x) (x := x) (vs := []) (t := s.toks) fun q hq => (mem_dropO.mp hq).2
  exact D.store (fun b => filter_lookup_none b) hk (av := .own []) ⟨_, .head _, rfl, rfl, .nil⟩ fun s' m' H' => ⟨Φ, .next _, fun zz1 h => h, hq, H'.undrop.at⟩
end
end Mine
end
section
open PySem PySem.W PySem.Calls PyProof.Rows PyProof.V
namespace Mine

theorem DatIn.listInv {Φ : Led} {v : Value} {ds : List Dat} (h : DatIn Φ v (.list ds)) : ∃ a vs n, v = .ref a ∧ (a, listOf vs.toArray n) ∈ Φ ∧ DatAll Φ vs ds := by
  cases h with
  | list hm hA => exact ⟨_, _, _, rfl, hm, hA⟩
theorem DatIn.tupInv {Φ : Led} {v : Value} {ds : List Dat} (h : DatIn Φ v (.tuple ds)) : ∃ a vs n, v = .ref a ∧ (a, ({ cls := .type "tuple", data := .seq vs.toArray n } : Obj)) ∈ Φ ∧ DatAll Φ vs ds := by
  cases h with
  | tuple hm hA => exact ⟨_, _, _, rfl, hm, hA⟩
section
variable {C : Cx} {X Φ Φ' : Led} {ρ ρ' : Loc} {m : Str → Option Value} {ow : List OwnE} {s s' : Shared} {x : Str} {pos : Pos} {av : AV} {v : Value} {k : Nat} {ds : List Dat}

theorem AtM.load {Q : Value → Shared → Prop} {E : Value → Shared → Prop} {M : Model} {A : Around} (H : AtM C X Φ ρ m ow s) (S : Stored C.env s.heap m x v) (h : Q v s)
    (hd : (x == ("__debug__" : Str)) = false := by decide) (hc : (x == ("__classdict__" : Str)) = false := by decide) : wpAny M A (eval (.Name x pos) C.env) Q E s := by
  rcases S with ⟨hk, hm⟩ | ⟨hk | hk, c, hl, hi⟩
  · exact wpAny_Name (wpAny_loadName_local H.ok.kind hk H.fr.ns hm h) hd
  · exact wpAny_Name (wpAny_loadName_cell H.ok.kind hk hl hi h) hd
  · exact wpAny_Name (wpAny_loadName_free H.ok.kind hk hl hi h hc) hd
theorem AtM.loadN {Q : Value → Shared → Prop} {E : Value → Shared → Prop} {M : Model} {A : Around} (H : AtM C X Φ ρ m ow s) (S : Stored C.env s.heap m x v) (h : Q v s)
    (hc : (x == ("__classdict__" : Str)) = false := by decide) : wpAny M A (loadName C.env x) Q E s := by
  rcases S with ⟨hk, hm⟩ | ⟨hk | hk, c, hl, hi⟩
  · exact wpAny_loadName_local H.ok.kind hk H.fr.ns hm h
  · exact wpAny_loadName_cell H.ok.kind hk hl hi h
  · exact wpAny_loadName_free H.ok.kind hk hl hi h hc
noncomputable def Loc.Le (ρ' ρ : Loc) : Prop := ∀ x av, ρ'.lookup x = some av → ρ.lookup x = some av
theorem AtM.le (H : AtM C X Φ ρ m ow s) (h : ρ'.Le ρ) : AtM C X Φ ρ' m ow s := { H with loc := fun x av e => H.loc x av (h _ _ e) }
theorem AtM.plain (H : AtM C X Φ ρ m ow s) : interactive C.env = false := by
  unfold interactive
  rw [H.ok.kind]; rfl

theorem AtM.ownS {q : OwnE} (H : AtM C X Φ ρ m ow s) (hx : ρ.lookup x = some (.own ds)) (hq : q ∈ ow) (hn : q.nm = x) : Stored C.env s.heap m x (.ref q.ad) := by
  obtain ⟨q', h1, h2, h3, _⟩ := H.owned hx
  exact mem_of_nm H.nms h1 hq (h2.trans hn.symm) ▸ h3

variable {e : Expr} {Q : Out → Prop} {d : Dat} {px ap cp : Pos}

theorem SxJ.append (hx : ρ.lookup x = some (.own ds)) (he : EvJ C ρ e (.dat d)) (hz : ds.length ≤ 1000000) (hq : Q (.next ((x, .own (ds ++ [d])) :: ρ)))
    (hs : starEach [e] C.env = [(false, eval e C.env)] := by rfl) (hl : (ap.endLine == cp.line) = true := by rfl)
    (hd : (x == ("__debug__" : Str)) = false := by decide) (hc : (x == ("__classdict__" : Str)) = false := by decide) :
    SxJ C ρ (.Expr (.Call (.Attribute (.Name x px) "append" ap) [e] [] cp) pos) Q := fun X Φ f s H => by
  obtain ⟨q, hq1, hn, S, hD, ho⟩ := AtM.owned H hx
  have hlen := hD.length
  refine wpAny_Expr (Call_method1 rfl hs hl (AtM.load H S ?_ hd hc)) (AtM.plain H) rfl
  refine ⟨"list", "list.append", F.plainAttrs_list, F.slot_list_append, F.type_list_append, ⟨_, ho, rfl⟩, fun a e => by cases e; exact ⟨_, ho, rfl⟩, ?_⟩
  refine Calls.callWith_builtin rfl (Calls.evalArgs_plain (Calls.spliced_cons ?_))
  refine ff (wpAny_mono (he X Φ f s H) (fun v1 s1 ⟨Φ1, g1, H1, i1⟩ => Calls.spliced_nil ?_) fun zz1 zz2 f => f)
  have ho1 := H1.own q hq1
  refine call_meets F.slot_list_append ⟨_, ho1, rfl⟩ F.entry_list_append (F.args_list_append_2 _ _) (PySem.list_append q.ad q.vs.toArray q.n v1 (by rw [List.size_toArray, hlen, sizeLine_eq]; lia)) ⟨ho1, ?_⟩
  obtain ⟨n', H2⟩ := H1.turn (f := fun a => a.push v1) (vs' := q.vs ++ [v1]) (ds' := ds ++ [d]) (t := s1.toks) (H1.ownS hx hq1 hn) hq1 hn (by simp) ((DatAll.mono g1 hD).append (.one i1))
  exact ⟨Φ1, .next _, g1, hq, H2.at⟩

theorem door {a b : Array Value} (h : a.size + b.size ≤ sizeLine) : ¬(!a.isEmpty && Builtin.List.listTooLong (a.size + b.size)) = true := extend_door h

theorem SxJ.pop (hx : ρ.lookup x = some (.own (ds ++ [d]))) (hz : ds.length ≤ 1000000) (hq : Q (.next ((x, .own ds) :: ρ))) (hl : (ap.endLine == cp.line) = true := by rfl)
    (hd : (x == ("__debug__" : Str)) = false := by decide) (hc : (x == ("__classdict__" : Str)) = false := by decide) :
    SxJ C ρ (.Expr (.Call (.Attribute (.Name x px) "pop" ap) [] [] cp) pos) Q := fun X Φ f s H => by
  obtain ⟨q, hq1, hn, S, hD, ho⟩ := AtM.owned H hx
  have hlen := hD.length
  obtain ⟨vs, v, e1, h1, h2⟩ : ∃ vs v, q.vs = vs ++ [v] ∧ DatAll Φ vs ds ∧ DatIn Φ v d := by
    have hne : q.vs ≠ [] := fun e => by rw [e] at hlen; simp at hlen
    have e := List.dropLast_concat_getLast hne
    rw [← e] at hD
    obtain ⟨es, d', e2, h1, h2⟩ := hD.snoc
    obtain ⟨rfl, e3⟩ := List.append_inj' e2 rfl
    cases e3
    exact ⟨_, _, e.symm, h1, h2⟩
  have hl1 := h1.length
  refine wpAny_Expr_any (Call_method0 rfl hl (AtM.load H S ?_ hd hc)) (AtM.plain H) rfl
  refine ⟨"list", "list.pop", F.plainAttrs_list, F.slot_list_pop, F.type_list_pop, ⟨_, ho, rfl⟩, fun a e => by cases e; exact ⟨_, ho, rfl⟩, ?_⟩
  refine Calls.callWith_builtin rfl (evalArgs_nil3 ?_)
  have hk : q.vs.toArray.size - 1 = vs.length := by rw [e1, List.size_toArray, List.length_append]; rfl
  refine call_meets F.slot_list_pop ⟨_, ho, rfl⟩ F.entry_list_pop (F.args_list_pop_1 _) (MeetsSeq.list_pop_last q.ad q.vs.toArray q.n v (by rw [hk, e1]; simp) (by rw [List.size_toArray, e1, List.length_append, hl1, sizeLine_eq]; simp; lia)) ⟨ho, ?_⟩
  obtain ⟨n', H2⟩ := AtM.turn (f := fun xs => xs.eraseIdxIfInBounds (q.vs.toArray.size - 1)) (vs' := vs) (ds' := ds) (t := s.toks) H S hq1 hn (by
    rw [hk, e1, kl_erase, List.append_nil]) h1
  exact ⟨Φ, .next _, fun zz1 h => h, hq, H2.at⟩

theorem SxJ.extend {es : List Dat} (hx : ρ.lookup x = some (.own ds)) (he : EvJ C ρ e (.dat (.list es))) (hz : ds.length + es.length ≤ 1000000) (hq : Q (.next ((x, .own (ds ++ es)) :: ρ)))
    (hs : starEach [e] C.env = [(false, eval e C.env)] := by rfl) (hl : (ap.endLine == cp.line) = true := by rfl)
    (hd : (x == ("__debug__" : Str)) = false := by decide) (hc : (x == ("__classdict__" : Str)) = false := by decide) :
    SxJ C ρ (.Expr (.Call (.Attribute (.Name x px) "extend" ap) [e] [] cp) pos) Q := fun X Φ f s H => by
  obtain ⟨q, hq1, hn, S, hD, ho⟩ := AtM.owned H hx
  have hlen := hD.length
  refine wpAny_Expr (Call_method1 rfl hs hl (AtM.load H S ?_ hd hc)) (AtM.plain H) rfl
  refine ⟨"list", "list.extend", F.plainAttrs_list, F.slot_list_extend, F.type_list_extend, ⟨_, ho, rfl⟩, fun a e => by cases e; exact ⟨_, ho, rfl⟩, ?_⟩
  refine Calls.callWith_builtin rfl (Calls.evalArgs_plain (Calls.spliced_cons ?_))
  refine ff (wpAny_mono (he X Φ f s H) (fun v1 s1 ⟨Φ1, g1, H1, i1⟩ => Calls.spliced_nil ?_) fun zz1 zz2 f => f)
  have ho1 := H1.own q hq1
  obtain ⟨b, vs, n, rfl, hm, hA⟩ := DatIn.listInv i1
  have hb := H1.led _ hm
  have hlb := hA.length
  have hsz : q.vs.toArray.size + vs.toArray.size ≤ sizeLine := by rw [List.size_toArray, List.size_toArray, hlen, hlb, sizeLine_eq]; lia
  refine call_meets F.slot_list_extend ⟨_, ho1, rfl⟩ F.entry_list_extend (F.args_list_extend_2 _ _) (AutoSeq1.list_extend_list_list_0 q.ad q.vs.toArray q.n b vs.toArray n (door hsz) (by lia) (by lia)) ⟨ho1, hb, ?_⟩
  obtain ⟨n', H2⟩ := H1.turn (f := fun x => x ++ vs.toArray) (vs' := q.vs ++ vs) (ds' := ds ++ es) (t := s1.toks) (H1.ownS hx hq1 hn) hq1 hn (by simp) ((DatAll.mono g1 hD).append hA)
  exact ⟨Φ1, .next _, g1, hq, H2.at⟩

theorem seqSlot_list_iadd : seqSlot? (.type "list") (dunderI "add") = pure (some (.builtin "list.__iadd__")) := PySem.seqSlot_of F.slot_list_iadd.lookup (by decide +kernel)
theorem iadd_road {M : Model} {A : Around} {E : Value → Shared → Prop} {a b : Addr} {R : Value → Shared → Prop} (ha : s.TypeIs (.ref a) "list") (hb : s.TypeIs (.ref b) "list")
    (hc : wpAny M A (call (.builtin "list.__iadd__") [.ref a, .ref b]) R E s) : wpAny M A (inplaceOp .Add (.ref a) (.ref b)) R E s := by
  unfold inplaceOp
  refine wpAny_holding ?_
  have hfi : fillsInplaceSlot (.type "list") "add" (Operator.Add == .Add) = pure false := by
    unfold fillsInplaceSlot
    show (typeLookup (.type "list") (dunderI "add") >>= fun fi => pure (fi.isSome && !isSeqSlot fi)) = pure false
    rw [F.slot_list_iadd.lookup]
    show (pure ((some (Value.builtin "list.__iadd__")).isSome && !isSeqSlot (some (.builtin "list.__iadd__"))) : Sem Bool) = pure false
    rw [show isSeqSlot (some (Value.builtin "list.__iadd__")) = true from by decide +kernel]
    rfl
  refine wpAny_bind (wpAny_typeOf ha (wpAny_bind (wpAny_of_eq hfi ?_)))
  show wpAny M A (if false = true then _ else _) R E s
  rw [if_neg Bool.false_ne_true]
  refine wpAny_bind (wpAny_binaryOp1_none (nm := "add") ha hb noFill_list_add ?_)
  refine wpAny_bind (wpAny_of_eq seqSlot_list_iadd ?_)
  exact wpAny_bind (wpAny_rule hc)

theorem SxJ.iaddList {es : List Dat} (hx : ρ.lookup x = some (.own ds)) (hk : Kept C x) (he : EvJ C ρ e (.dat (.list es))) (hz : ds.length + es.length ≤ 1000000) (hq : Q (.next ((x, .own (ds ++ es)) :: ρ)))
    (hc : (x == ("__classdict__" : Str)) = false := by decide) : SxJ C ρ (.AugAssign (.Name x px) .Add e pos) Q := fun X Φ f s H => by
  obtain ⟨q, hq1, hn, S, hD, ho⟩ := AtM.owned H hx
  have hlen := hD.length
  refine wpAny_AugAssign_Name ?_
  have go : wpAny (model P C.w) C.A (eval e C.env) (fun v s₂ => wpAny (model P C.w) C.A (inplaceOp .Add (.ref q.ad) v) (fun r s₃ => wpAny (model P C.w) C.A (storeName C.env x r) (fun zz1 => Done C X Φ Q .next) (DoneE C X Φ Q) s₃) (DoneE C X Φ Q) s₂) (DoneE C X Φ Q) s := by
    refine ff (wpAny_mono (he X Φ f s H) (fun v1 s1 ⟨Φ1, g1, H1, i1⟩ => ?_) fun zz1 zz2 f => f)
    have ho1 := H1.own q hq1
    obtain ⟨b, vs, n, rfl, hm, hA⟩ := DatIn.listInv i1
    have hb := H1.led _ hm
    have hlb := hA.length
    have hsz : q.vs.toArray.size + vs.toArray.size ≤ sizeLine := by rw [List.size_toArray, List.size_toArray, hlen, hlb, sizeLine_eq]; lia
    refine ff (iadd_road ⟨_, ho1, rfl⟩ ⟨_, hb, rfl⟩ ?_)
    refine call_meets F.slot_list_iadd ⟨_, ho1, rfl⟩ F.entry_list_iadd (F.args_list_iadd_2 _ _) (AutoSeq1.list___iadd___list_list_0 q.ad q.vs.toArray q.n b vs.toArray n (door hsz) (by lia) (by lia)) ⟨ho1, hb, ?_⟩
    obtain ⟨n', H2⟩ := H1.turn (f := fun x => x ++ vs.toArray) (vs' := q.vs ++ vs) (ds' := ds ++ es) (t := s1.toks) (H1.ownS hx hq1 hn) hq1 hn (by simp) ((DatAll.mono g1 hD).append hA)
    obtain ⟨q2, h1, h2, h3, h4, h5⟩ := H2.owned (x := x) (ds := ds ++ es) (by simp)
    have hqa : q2.ad = q.ad := by
      have h6 : (⟨x, q.ad, q.vs ++ vs, n'⟩ : OwnE) ∈ updO x (q.vs ++ vs) n' f.ow := List.mem_map.mpr ⟨q, hq1, by rw [if_pos hn]⟩
      have := mem_of_nm H2.nms h1 h6 h2
      rw [this]
    show wpAny (model P C.w) C.A (storeName C.env x (.ref q.ad)) _ _ _
    refine (H2.le (ρ' := ρ.filter fun p => !(p.1 == x)) ?_).store (x := x) (fun b => filter_lookup_none b) hk (av := .own (ds ++ es)) ⟨q2, h1, h2, by rw [hqa], h4⟩ fun s' m' H3 => ⟨Φ1, .next _, g1, hq, H3.undrop.at⟩
    intro y b e
    rw [lookup_filter_ne] at e
    by_cases hy : y = x
    · rw [if_pos hy] at e; cases e
    · rw [if_neg hy] at e
      have : (y == x) = false := beq_eq_false_iff_ne.mpr hy
      simp only [List.lookup_cons, this]; exact e
  exact H.loadN S go hc
end
end Mine
end
section
open PySem PySem.W PySem.Calls PyProof.Rows PyProof.V
namespace Mine

noncomputable abbrev T (l : List Nat) : PySem.Str := ⟨l.toArray⟩
noncomputable abbrev DS (l : List Nat) : Dat := .str (T l)
theorem T_len (l : List Nat) : (T l).length = l.length := by simp [PySem.Str.length]
theorem T_app (a b : List Nat) : T a ++ T b = T (a ++ b) := Str.ext' (by simp [Str.cps_append])
theorem T_list (l : List Nat) : (T l).cps.toList = l := rfl
theorem T_inj {a b : List Nat} (h : T a = T b) : a = b := by
  have := congrArg (fun x => x.cps.toList) h
  exact this

section
variable {a b : Int} {x y : List Nat}
theorem op_add : Op2 (binaryOp .Add) (.int a) (.int b) (.int (a + b)) := fun C X Φ ρ f s v1 v2 H h1 h2 => by
  cases h1; cases h2; exact P.add_int ⟨Φ, fun zz1 h => h, H.toks _, .int _ _⟩
theorem op_sub : Op2 (binaryOp .Sub) (.int a) (.int b) (.int (a - b)) := fun C X Φ ρ f s v1 v2 H h1 h2 => by
  cases h1; cases h2; exact P.sub_int ⟨Φ, fun zz1 h => h, H.toks _, .int _ _⟩
theorem op_mul (h : IntMulOk a b) : Op2 (binaryOp .Mult) (.int a) (.int b) (.int (a * b)) := fun C X Φ ρ f s v1 v2 H h1 h2 => by
  cases h1; cases h2; exact P.mul_int ⟨Φ, fun zz1 h => h, H.toks _, .int _ _⟩ h
theorem op_mod (h : b ≠ 0) : Op2 (binaryOp .Mod) (.int a) (.int b) (.int (a.fmod b)) := fun C X Φ ρ f s v1 v2 H h1 h2 => by
  cases h1; cases h2; exact AutoIntOps.mod_1 (by simpa using h) ⟨Φ, fun zz1 h => h, H.toks _, .int _ _⟩
theorem op_fdiv (h : b ≠ 0) (hp : Builtin.divisionGoesByPylong a b = false) : Op2 (binaryOp .FloorDiv) (.int a) (.int b) (.int (a.fdiv b)) := fun C X Φ ρ f s v1 v2 H h1 h2 => by
  cases h1; cases h2; exact AutoIntOps.floordiv_1 (by simpa using h) (by simp [hp]) ⟨Φ, fun zz1 h => h, H.toks _, .int _ _⟩
theorem op_iadd : Op2 (inplaceOp .Add) (.int a) (.int b) (.int (a + b)) := fun C X Φ ρ f s v1 v2 H h1 h2 => by
  cases h1; cases h2; exact AutoIntOps.iadd_0 ⟨Φ, fun zz1 h => h, H.toks _, .int _ _⟩
theorem op_eqI : Op2 (compareOp .Eq) (.int a) (.int b) (.bool (a == b)) := fun C X Φ ρ f s v1 v2 H h1 h2 => by
  cases h1; cases h2; exact P.eq_int ⟨Φ, fun zz1 h => h, H, .bool _⟩
theorem op_neI : Op2 (compareOp .NotEq) (.int a) (.int b) (.bool (a != b)) := fun C X Φ ρ f s v1 v2 H h1 h2 => by
  cases h1; cases h2; exact P.ne_int ⟨Φ, fun zz1 h => h, H, .bool _⟩
theorem op_ltI : Op2 (compareOp .Lt) (.int a) (.int b) (.bool (decide (a < b))) := fun C X Φ ρ f s v1 v2 H h1 h2 => by
  cases h1; cases h2; exact P.lt_int ⟨Φ, fun zz1 h => h, H, .bool _⟩
theorem op_leI : Op2 (compareOp .LtE) (.int a) (.int b) (.bool (decide (a ≤ b))) := fun C X Φ ρ f s v1 v2 H h1 h2 => by
  cases h1; cases h2; exact P.le_int ⟨Φ, fun zz1 h => h, H, .bool _⟩
theorem op_gtI : Op2 (compareOp .Gt) (.int a) (.int b) (.bool (decide (a > b))) := fun C X Φ ρ f s v1 v2 H h1 h2 => by
  cases h1; cases h2; exact P.gt_int ⟨Φ, fun zz1 h => h, H, .bool _⟩
theorem op_geI : Op2 (compareOp .GtE) (.int a) (.int b) (.bool (decide (a ≥ b))) := fun C X Φ ρ f s v1 v2 H h1 h2 => by
  cases h1; cases h2; exact P.ge_int ⟨Φ, fun zz1 h => h, H, .bool _⟩
theorem op_addB {t : Bool} : Op2 (binaryOp .Add) (.int a) (.bool t) (.int (a + if t then 1 else 0)) := fun C X Φ ρ f s v1 v2 H h1 h2 => by
  cases h1; cases h2; exact PySem.add_int_bool ⟨Φ, fun zz1 h => h, H.toks _, .int _ _⟩
theorem op_subB {t u : Bool} : Op2 (binaryOp .Sub) (.bool t) (.bool u) (.int ((if t then 1 else 0) - if u then 1 else 0)) := fun C X Φ ρ f s v1 v2 H h1 h2 => by
  cases h1; cases h2; exact sub_bool ⟨Φ, fun zz1 h => h, H.toks _, .int _ _⟩
theorem tr_int : Tr (.int a) (a != 0) := fun C X Φ ρ f s v1 H h1 => by cases h1; exact P.truthy_int ⟨rfl, Φ, fun zz1 h => h, H⟩
theorem tr_bool {t : Bool} : Tr (.bool t) t := fun C X Φ ρ f s v1 H h1 => by cases h1; exact wpAny_truthy_bool ⟨rfl, Φ, fun zz1 h => h, H⟩
theorem tr_none : Tr .none false := fun C X Φ ρ f s v1 H h1 => by cases h1; exact truthy_none ⟨rfl, Φ, fun zz1 h => h, H⟩
theorem op_usub : Op1 (unaryOp .USub) (.int a) (.int (-a)) := fun C X Φ ρ f s v1 H h1 => by
  cases h1; exact neg_int ⟨Φ, fun zz1 h => h, H.toks _, .int _ _⟩
theorem op_not {d : Dat} {t : Bool} (h : Tr d t) : Op1 (unaryOp .Not) d (.bool (!t)) := fun C X Φ ρ f s v1 H h1 =>
  not_of (wpAny_mono (h C X Φ ρ f s v1 H h1) (fun v s' ⟨e, Φ1, g1, H1⟩ => ⟨Φ1, g1, H1, by rw [e]; exact .bool _⟩) fun zz1 zz2 f => f)

/-! texts -/
theorem op_eqS : Op2 (compareOp .Eq) (DS x) (DS y) (.bool (decide (x = y))) := fun C X Φ ρ f s v1 v2 H h1 h2 => by
  cases h1; cases h2
  refine P.eq_str ⟨Φ, fun zz1 h => h, H, ?_⟩
  rw [T_list, T_list, show (x == y) = decide (x = y) from by by_cases h : x = y <;> simp [h]]
  exact .bool _
theorem op_neS : Op2 (compareOp .NotEq) (DS x) (DS y) (.bool (decide (x ≠ y))) := fun C X Φ ρ f s v1 v2 H h1 h2 => by
  cases h1; cases h2
  refine P.ne_str ⟨Φ, fun zz1 h => h, H, ?_⟩
  rw [T_list, T_list, show (x != y) = decide (x ≠ y) from by by_cases h : x = y <;> simp [h]]
  exact .bool _
theorem op_ltS : Op2 (compareOp .Lt) (DS x) (DS y) (.bool (decide (x < y))) := fun C X Φ ρ f s v1 v2 H h1 h2 => by
  cases h1; cases h2; exact P.lt_str ⟨Φ, fun zz1 h => h, H, .bool _⟩
theorem op_gtS : Op2 (compareOp .Gt) (DS x) (DS y) (.bool (decide (y < x))) := fun C X Φ ρ f s v1 v2 H h1 h2 => by
  cases h1; cases h2; exact P.gt_str ⟨Φ, fun zz1 h => h, H, .bool _⟩
theorem op_addS (hz : x.length + y.length ≤ 1000000) : Op2 (binaryOp .Add) (DS x) (DS y) (DS (x ++ y)) := fun C X Φ ρ f s v1 v2 H h1 h2 => by
  cases h1; cases h2
  refine SB.add (fun t' k => ?_) (by rw [T_len, T_len, sizeLine_eq]; lia)
  rw [T_app]
  exact ⟨Φ, fun zz1 h => h, H.toks _, .str _ _⟩
theorem op_iaddS (hz : x.length + y.length ≤ 1000000) : Op2 (inplaceOp .Add) (DS x) (DS y) (DS (x ++ y)) := fun C X Φ ρ f s v1 v2 H h1 h2 => by
  cases h1; cases h2
  refine SB.iadd (fun t' k => ?_) (by rw [T_len, T_len, sizeLine_eq]; lia)
  rw [T_app]
  exact ⟨Φ, fun zz1 h => h, H.toks _, .str _ _⟩
theorem tr_str (hz : x.length ≤ 1000000) : Tr (DS x) (decide (x ≠ [])) := fun C X Φ ρ f s v1 H h1 => by
  cases h1
  refine P.truthy_str (by rw [T_len]; lia) ⟨?_, Φ, fun zz1 h => h, H.toks _⟩
  rw [T_len]
  cases x with
  | nil => rfl
  | cons c l => simp only [List.length_cons, ne_eq, reduceCtorEq, not_false_eq_true, decide_true, bne_iff_ne]; lia
end
end Mine
end
section
open PySem PySem.W PySem.Calls PyProof.Rows PyProof.V
namespace Mine

noncomputable def sl {α : Type} (lo hi : Option Int) (l : List α) : List α := (l.drop (kms_lo lo l.length)).take (kms_hi hi l.length - kms_lo lo l.length)

theorem sl_str (l : List Nat) (lo hi : Option Int) : Txt.slice (T l) lo hi = T (sl lo hi l) := by
  have e : Builtin.Str.strSliceIndices lo hi 1 l.length = sliceRange (sliceBounds lo hi none l.length).1 (sliceBounds lo hi none l.length).2.1 (sliceBounds lo hi none l.length).2.2 := by
    cases lo <;> cases hi <;> rfl
  have r : ∀ a b : Nat, sliceRange (a : Int) (b : Int) 1 = (List.range (b - a)).map (fun k => a + k) := fun a b => by
    have hc : (if (1 : Int) > 0 then (if (a : Int) < b then ((b : Int) - a + 1 - 1) / 1 else 0) else (if (a : Int) > b then ((a : Int) - b - 1 - 1) / (-1) else 0)).toNat = b - a := by
      rw [if_pos (by decide)]
      split <;> lia
    unfold sliceRange
    simp only [hc]
    congr 1
    funext k
    lia
  have hlen : (T l).length = l.length := T_len l
  have hb : kms_hi hi l.length ≤ l.length := by
    unfold kms_hi
    split
    · exact Nat.le_refl _
    · split <;> lia
  rw [Txt.slice, hlen, e, kms_bounds]
  simp only [r]
  have pick : ((List.range (kms_hi hi l.length - kms_lo lo l.length)).map (fun k => kms_lo lo l.length + k)).filterMap ((T l).cps[·]?) = sl lo hi l := by
    by_cases h : kms_lo lo l.length + (kms_hi hi l.length - kms_lo lo l.length) ≤ l.length
    · have := StrLaws.picks l (kms_hi hi l.length - kms_lo lo l.length) (kms_lo lo l.length) h
      unfold sl
      rw [← this]
      congr 1
      funext i
      simp
    · have h0 : kms_hi hi l.length - kms_lo lo l.length = 0 := by lia
      unfold sl
      rw [h0]; simp
  split
  · rename_i h
    simp only [BEq.rfl, Bool.true_and, beq_iff_eq, List.length_map, List.length_range] at h
    by_cases hl0 : l.length = 0
    · have : l = [] := List.eq_nil_of_length_eq_zero hl0
      subst this; simp [sl]
    have h0 : kms_lo lo l.length = 0 := by lia
    have h1 : kms_hi hi l.length = l.length := by lia
    unfold sl
    rw [h0, h1]
    simp
  · rw [pick]

theorem datAll_take {Φ : Led} : ∀ {vs : List Value} {ds : List Dat} (n : Nat), DatAll Φ vs ds → DatAll Φ (vs.take n) (ds.take n)
  | _, _, 0, _ => by simp; exact .nil
  | _, _, n + 1, .nil => .nil
  | _, _, n + 1, .cons h r => .cons h (datAll_take n r)
theorem datAll_drop {Φ : Led} : ∀ {vs : List Value} {ds : List Dat} (n : Nat), DatAll Φ vs ds → DatAll Φ (vs.drop n) (ds.drop n)
  | _, _, 0, h => h
  | _, _, n + 1, .nil => .nil
  | _, _, n + 1, .cons h r => datAll_drop n r
theorem datAll_sl {Φ : Led} {vs : List Value} {ds : List Dat} (lo hi : Option Int) (h : DatAll Φ vs ds) : DatAll Φ (kms_pick vs lo hi) (sl lo hi ds) := by
  unfold kms_pick sl
  rw [h.length]
  exact datAll_take _ (datAll_drop _ h)
theorem datAll_get? {Φ : Led} {vs : List Value} {ds : List Dat} {k : Nat} {d : Dat} (h : DatAll Φ vs ds) (e : ds[k]? = some d) : ∃ v, vs[k]? = some v ∧ DatIn Φ v d := by
  obtain ⟨hk, rfl⟩ := List.getElem?_eq_some_iff.mp e
  exact h.get hk

section
variable {C : Cx} {X Φ Φ' : Led} {ρ ρ' : Loc} {m : Str → Option Value} {ow : List OwnE} {s s' : Shared} {x : Str} {pos sp : Pos} {av : AV} {v : Value} {k : Nat} {ds : List Dat} {e o : Expr} {l : List Nat} {lo hi : Option Int} {el eh : Option Expr}

inductive PartJ (C : Cx) (ρ : Loc) : Option Expr → Option Int → Prop
  | none : PartJ C ρ .none .none
  | some {e : Expr} {i : Int} (h : EvJ C ρ e (.dat (.int i))) : PartJ C ρ (.some e) (.some i)

theorem PartJ.go (h : PartJ C ρ el lo) {f : Fm} (H : AtF C X Φ ρ f s) : wpAny (model P C.w) C.A (evalPart el C.env) (fun v s' => ∃ Φ', (∀ p ∈ Φ, p ∈ Φ') ∧ AtF C X Φ' ρ f s' ∧ IsPart v lo) (fun zz1 zz2 => False) s := by
  cases h with
  | none => exact wpAny_pure ⟨Φ, fun zz1 h => h, H, .none⟩
  | some h => exact wpAny_mono (h X Φ f s H) (fun v s' ⟨Φ1, g1, H1, i1⟩ => ⟨Φ1, g1, H1, by cases i1; exact .int _ _⟩) fun zz1 zz2 f => f

theorem part_tok {v : Value} (h : IsPart v lo) : ∃ t, v = partValue (lo.map fun i => (i, t)) := by
  cases h with
  | none => exact ⟨0, rfl⟩
  | int i t => exact ⟨t, rfl⟩

theorem sliceGo {Q : Value → Shared → Prop} {a : Dat} {f : Fm} (ho : EvJ C ρ o (.dat a)) (hl : PartJ C ρ el lo) (hh : PartJ C ρ eh hi) (H : AtF C X Φ ρ f s)
    (h : ∀ Φ' s' v vl vu, (∀ p ∈ Φ, p ∈ Φ') → AtF C X Φ' ρ f s' → DatIn Φ' v a → IsPart vl lo → IsPart vu hi →
      wpAny (model P C.w) C.A (subscriptTail o (.Slice el eh none sp) v (.ref s'.heap.objs.size)) Q (fun zz1 zz2 => False) { s' with heap := s'.heap.push { cls := .type "slice", data := .fields #[vl, vu, .none] } }) :
    wpAny (model P C.w) C.A (eval (.Subscript o (.Slice el eh none sp) pos) C.env) Q (fun zz1 zz2 => False) s := by
  refine Subscript_ (wpAny_mono (ho X Φ f s H) (fun v1 s1 ⟨Φ1, g1, H1, i1⟩ => ?_) fun zz1 zz2 f => f)
  refine wpAny_Slice (wpAny_mono (hl.go H1) (fun vl s2 ⟨Φ2, g2, H2, i2⟩ => wpAny_mono (hh.go H2) (fun vu s3 ⟨Φ3, g3, H3, i3⟩ => ?_) fun zz1 zz2 f => f) fun zz1 zz2 f => f)
  exact evalPart_none_step (h Φ3 s3 v1 vl vu (fun p hp => g3 p (g2 p (g1 p hp))) H3 (DatIn.mono (fun p hp => g3 p (g2 p hp)) i1) i2 i3)

theorem EvJ.sliceS (ho : EvJ C ρ o (.dat (DS l))) (hl : PartJ C ρ el lo) (hh : PartJ C ρ eh hi) (hz : l.length ≤ 1000000) : EvJ C ρ (.Subscript o (.Slice el eh none sp) pos) (.dat (DS (sl lo hi l))) := fun X Φ f s H => by
  refine sliceGo ho hl hh H fun Φ' s' v vl vu g H' i p1 p2 => ?_
  cases i
  obtain ⟨t1, rfl⟩ := part_tok p1
  obtain ⟨t2, rfl⟩ := part_tok p2
  refine tail_any (typeIs_str _ _ _) F.slot_str_getitem.lookup (wpAny_getItem_str_slice (l := lo.map fun i => (i, t1)) (u := hi.map fun i => (i, t2)) (st := none) ⟨_, Heap.get?_push_size _ rfl, rfl, rfl⟩ rfl ?_) rfl
  have e : ∀ (o : Option Int) (t : Tok), (o.map fun i => (i, t)).map (·.1) = o := fun o t => by cases o <;> rfl
  have hs := sl_str l lo hi
  have G := H'.garbage { cls := .type "slice", data := .fields #[partValue (lo.map fun i => (i, t1)), partValue (hi.map fun i => (i, t2)), .none] } s'.toks
  unfold Txt.slice at hs
  unfold sliceMade slicePicked
  simp only [Option.map_none, Option.getD_none, e]
  split
  · rename_i h
    rw [if_pos h] at hs
    rw [← T_inj hs]
    exact ⟨Φ', g, G, .str _ _⟩
  · rename_i h
    rw [if_neg h] at hs
    rw [hs]
    refine ⟨?_, Φ', g, G.toks _, .str _ _⟩
    rw [T_len, sizeLine_eq]
    unfold sl
    rw [List.length_take, List.length_drop]
    lia

theorem EvJ.sliceL (ho : EvJ C ρ o (.dat (.list ds))) (hl : PartJ C ρ el lo) (hh : PartJ C ρ eh hi) (hz : ds.length ≤ 1000000) : EvJ C ρ (.Subscript o (.Slice el eh none sp) pos) (.dat (.list (sl lo hi ds))) := fun X Φ f s H => by
  refine sliceGo ho hl hh H fun Φ' s' v vl vu g H' i p1 p2 => ?_
  obtain ⟨a, vs, n, rfl, hm, hD⟩ := DatIn.listInv i
  have hlen := hD.length
  have ho := Heap.get?_push_of_some { cls := .type "slice", data := .fields #[vl, vu, .none] } (H'.led _ hm)
  have hL : (s'.heap.push { cls := .type "slice", data := .fields #[vl, vu, .none] }).IsList a vs.toArray := ⟨_, ho, rfl, _, rfl⟩
  refine tail_any hL.typeIs slot_list_getitem.lookup (wpAny_getItem_list_slice hL (.new _ _ _ _) p1 p2 .none (by decide) ?_ (by rw [List.size_toArray, hlen, sizeLine_eq]; lia)) rfl
  rw [kms_pick_eq, List.toList_toArray]
  have G := (H'.garbage { cls := .type "slice", data := .fields #[vl, vu, .none] } s'.toks).push (listOf (kms_pick vs lo hi).toArray 0) s'.toks rfl
  exact ⟨_, fun p hp => .tail _ (g p hp), G, .list (.head _) (datAll_sl lo hi (hD.mono fun p hp => .tail _ hp))⟩

theorem EvJ.item {i : Int} {d : Dat} (ho : EvJ C ρ o (.dat (.list ds))) (hi : EvJ C ρ e (.dat (.int i))) (h0 : 0 ≤ i) (hd : ds[i.toNat]? = some d) (hz : i < 1000000)
    (hs : ∀ a b u, subscripted e false (.ref a) (.int b u) = operate [.ref a, .int b u] (getItem (.ref a) (.int b u)) := by intro a b u; with_unfolding_all rfl) : EvJ C ρ (.Subscript o e pos) (.dat d) := fun X Φ f s H => by
  refine Subscript_ (wpAny_mono (ho X Φ f s H) (fun v1 s1 ⟨Φ1, g1, H1, i1⟩ => wpAny_mono (hi X Φ1 f s1 H1) (fun v2 s2 ⟨Φ2, g2, H2, i2⟩ => ?_) fun zz1 zz2 f => f) fun zz1 zz2 f => f)
  obtain ⟨a, vs, n, rfl, hm, hD⟩ := DatIn.listInv (DatIn.mono g2 i1)
  cases i2
  obtain ⟨v, hv, hI⟩ := datAll_get? hD hd
  have hL : s2.heap.IsList a vs.toArray := ⟨_, H2.led _ hm, rfl, _, rfl⟩
  exact tail_any hL.typeIs slot_list_getitem.lookup (wpAny_getItem_list hL h0 (by lia) (by simpa using hv) ⟨Φ2, fun p hp => g2 p (g1 p hp), H2, hI⟩) (hs _ _ _)
theorem EvJ.itemNeg {i : Int} {d : Dat} (ho : EvJ C ρ o (.dat (.list ds))) (hi : EvJ C ρ e (.dat (.int i))) (h0 : i < 0) (h1 : -(ds.length : Int) ≤ i) (hd : ds[(i + ds.length).toNat]? = some d) (hz : -1000000 < i)
    (hs : ∀ a b u, subscripted e false (.ref a) (.int b u) = operate [.ref a, .int b u] (getItem (.ref a) (.int b u)) := by intro a b u; with_unfolding_all rfl) : EvJ C ρ (.Subscript o e pos) (.dat d) := fun X Φ f s H => by
  refine Subscript_ (wpAny_mono (ho X Φ f s H) (fun v1 s1 ⟨Φ1, g1, H1, i1⟩ => wpAny_mono (hi X Φ1 f s1 H1) (fun v2 s2 ⟨Φ2, g2, H2, i2⟩ => ?_) fun zz1 zz2 f => f) fun zz1 zz2 f => f)
  obtain ⟨a, vs, n, rfl, hm, hD⟩ := DatIn.listInv (DatIn.mono g2 i1)
  cases i2
  have hlen := hD.length
  obtain ⟨v, hv, hI⟩ := datAll_get? hD hd
  have hL : s2.heap.IsList a vs.toArray := ⟨_, H2.led _ hm, rfl, _, rfl⟩
  exact tail_any hL.typeIs slot_list_getitem.lookup (wpAny_getItem_list_neg hL h0 (by rw [List.size_toArray, hlen]; exact h1) (by lia) (by rw [List.size_toArray, hlen]; simpa using hv) ⟨Φ2, fun p hp => g2 p (g1 p hp), H2, hI⟩) (hs _ _ _)
theorem EvJ.itemT {i : Int} {d : Dat} (ho : EvJ C ρ o (.dat (.tuple ds))) (hi : EvJ C ρ e (.dat (.int i))) (h0 : 0 ≤ i) (hd : ds[i.toNat]? = some d) (hz : i < 1000000)
    (hs : ∀ a b u, subscripted e false (.ref a) (.int b u) = operate [.ref a, .int b u] (getItem (.ref a) (.int b u)) := by intro a b u; with_unfolding_all rfl) : EvJ C ρ (.Subscript o e pos) (.dat d) := fun X Φ f s H => by
  refine Subscript_ (wpAny_mono (ho X Φ f s H) (fun v1 s1 ⟨Φ1, g1, H1, i1⟩ => wpAny_mono (hi X Φ1 f s1 H1) (fun v2 s2 ⟨Φ2, g2, H2, i2⟩ => ?_) fun zz1 zz2 f => f) fun zz1 zz2 f => f)
  obtain ⟨a, vs, n, rfl, hm, hD⟩ := DatIn.tupInv (DatIn.mono g2 i1)
  cases i2
  have hlen := hD.length
  obtain ⟨v, hv, hI⟩ := datAll_get? hD hd
  have hlt : i.toNat < vs.length := (List.getElem?_eq_some_iff.mp hv).1
  have hT : IsTup s2.heap a vs.toArray := ⟨_, H2.led _ hm, rfl, _, rfl⟩
  refine item_tupleT hT (by lia) (by lia) (j := i.toNat) ?_ hv ⟨Φ2, fun p hp => g2 p (g1 p hp), H2, hI⟩ (hs _ _ _)
  unfold seqIndex?
  have : ¬ i < 0 := by lia
  simp only [this, if_false]
  rw [if_pos (by simp only [Bool.and_eq_true, decide_eq_true_eq]; lia)]

theorem TvJ.own (hx : ρ.lookup x = some (.own ds)) (hz : ds.length ≤ 1000000)
    (hd : (x == ("__debug__" : Str)) = false := by decide) (hc : (x == ("__classdict__" : Str)) = false := by decide) : TvJ C ρ (.Name x pos) (!ds.isEmpty) := fun X Φ f s H => by
  obtain ⟨q, hq1, hn, S, hD, ho⟩ := AtM.owned H hx
  have hlen := hD.length
  have hL : s.heap.IsList q.ad q.vs.toArray := ⟨_, ho, rfl, _, rfl⟩
  refine isTrue_plain (AtM.load H S ?_ hd hc) rfl
  refine wpAny_truthy_list hL (by rw [List.size_toArray, hlen]; lia) ⟨?_, Φ, fun zz1 h => h, H.toks _⟩
  have : q.vs.toArray.isEmpty = ds.isEmpty := by
    cases hv : q.vs <;> cases ds <;> simp_all
  rw [this]
theorem EvJ.ownLast {d : Dat} (hx : ρ.lookup x = some (.own (ds ++ [d]))) (hi : EvJ C ρ e (.dat (.int (-1)))) {px : Pos}
    (hs : ∀ a b u, subscripted e false (.ref a) (.int b u) = operate [.ref a, .int b u] (getItem (.ref a) (.int b u)) := by intro a b u; with_unfolding_all rfl)
    (hd : (x == ("__debug__" : Str)) = false := by decide) (hc : (x == ("__classdict__" : Str)) = false := by decide) : EvJ C ρ (.Subscript (.Name x px) e pos) (.dat d) := fun X Φ f s H => by
  obtain ⟨q, hq1, hn, S, hD, ho⟩ := AtM.owned H hx
  have hlen := hD.length
  simp only [List.length_append, List.length_cons, List.length_nil] at hlen
  refine Subscript_ (AtM.load H S ?_ hd hc)
  refine wpAny_mono (hi X Φ f s H) (fun v2 s2 ⟨Φ2, g2, H2, i2⟩ => ?_) fun zz1 zz2 f => f
  cases i2
  have hL : s2.heap.IsList q.ad q.vs.toArray := ⟨_, H2.own q hq1, rfl, _, rfl⟩
  obtain ⟨v, hv, hI⟩ := datAll_get? (k := ds.length) (hD.mono g2) (by simp : (ds ++ [d])[ds.length]? = some d)
  refine tail_any hL.typeIs slot_list_getitem.lookup (wpAny_getItem_list_neg hL (by decide) (by rw [List.size_toArray]; lia) (by decide) (x := v) ?_ ⟨Φ2, g2, H2, hI⟩) (hs _ _ _)
  rw [List.size_toArray, hlen, show ((-1 : Int) + ((ds.length + (0 + 1) : Nat) : Int)).toNat = ds.length from by lia]
  simpa using hv
end
end Mine
end
section
open PySem PySem.W PySem.Calls PyProof.Rows PyProof.V
namespace Mine

section
variable {C : Cx} {X Φ Φ' : Led} {ρ ρ' : Loc} {m : Str → Option Value} {ow : List OwnE} {s s' : Shared} {x : Str} {pos sp ap cp : Pos} {av : AV} {v : Value} {k : Nat} {ds : List Dat} {e o : Expr} {l p : List Nat}

structure MethS1 (name : Str) (l : List Nat) (b r : Dat) : Prop where
  ex : ∃ id, Slot "str" name id ∧ typeOf (.builtin id) = pure (.type "method_descriptor") ∧ Op2 (fun u w => call (.builtin id) [u, w]) (DS l) b r

theorem EvJ.meth1 {name : Str} {b r : Dat} (ho : EvJ C ρ o (.dat (DS l))) (he : EvJ C ρ e (.dat b)) (hm : MethS1 name l b r)
    (hb : attributeBase o name C.env (eval o C.env) = eval o C.env := by rfl) (hs : starEach [e] C.env = [(false, eval e C.env)] := by rfl) (hl : (ap.endLine == cp.line) = true := by rfl) :
    EvJ C ρ (.Call (.Attribute o name ap) [e] [] cp) (.dat r) := fun X Φ f s H => by
  obtain ⟨id, slot, ty, op⟩ := hm.ex
  refine Call_method1 hb hs hl (wpAny_mono (ho X Φ f s H) (fun v1 s1 ⟨Φ1, g1, H1, i1⟩ => ?_) fun zz1 zz2 f => f)
  cases i1
  refine ⟨"str", id, F.plainAttrs_str, slot, ty, typeIs_str _ _ _, (fun zz1 e => nomatch e), ?_⟩
  refine Calls.callWith_builtin rfl (Calls.evalArgs_plain (Calls.spliced_cons ?_))
  refine wpAny_mono (he X Φ1 f s1 H1) (fun v2 s2 ⟨Φ2, g2, H2, i2⟩ => Calls.spliced_nil ?_) fun zz1 zz2 f => f
  exact wpAny_mono (op C X Φ2 ρ f s2 _ v2 H2 (.str _ _) i2) (fun v3 s3 ⟨Φ3, g3, H3, i3⟩ => ⟨Φ3, fun p hp => g3 p (g2 p (g1 p hp)), H3, i3⟩) fun zz1 zz2 f => f

theorem startsOne (c : Nat) : Txt.startswith (T l) (T [c]) = decide (l.head? = some c) := by
  unfold Txt.startswith
  rw [StrLaws.subAt_eq, T_list, T_list, T_len, T_len]
  cases l with
  | nil => simp
  | cons a r =>
    simp only [List.length_cons, List.length_nil, List.drop_zero, List.take_succ_cons, List.take_zero, List.head?_cons]
    by_cases h : a = c <;> simp [h]
theorem endsOne (c : Nat) : Txt.endswith (T l) (T [c]) = decide (l.getLast? = some c) := by
  unfold Txt.endswith
  rw [StrLaws.subAt_eq, T_list, T_list, T_len, T_len]
  rcases List.eq_nil_or_concat l with rfl | ⟨r, a, rfl⟩
  · simp
  · rw [List.concat_eq_append]
    simp only [List.length_append, List.length_cons, List.length_nil]
    rw [show r.length + (0 + 1) - (0 + 1) = r.length from by lia, List.drop_left, List.getLast?_append]
    by_cases h : a = c <;> simp [h]
theorem meth_starts (c : Nat) : MethS1 "startswith" l (DS [c]) (.bool (decide (l.head? = some c))) := ⟨_, F.slot_str_startswith, F.type_str_startswith, fun C X Φ ρ f s v1 v2 H h1 h2 => by
  cases h1; cases h2
  exact SC.startswith ⟨Φ, fun zz1 h => h, H, by rw [startsOne]; exact .bool _⟩⟩
theorem meth_ends (c : Nat) : MethS1 "endswith" l (DS [c]) (.bool (decide (l.getLast? = some c))) := ⟨_, F.slot_str_endswith, F.type_str_endswith, fun C X Φ ρ f s v1 v2 H h1 h2 => by
  cases h1; cases h2
  exact SC.endswith ⟨Φ, fun zz1 h => h, H, by rw [endsOne]; exact .bool _⟩⟩


theorem at_one {c i : Nat} : PySem.StrLaws.At (T l) (T [c]) (T l).length i ↔ l[i]? = some c := by
  unfold PySem.StrLaws.At
  exact StrLaws.subAt_one (T l) c i
theorem meth_rfind {c : Nat} {r : Int} (h : (c ∉ l ∧ r = -1) ∨ ∃ a b, l = a ++ c :: b ∧ c ∉ b ∧ r = (a.length : Int)) : MethS1 "rfind" l (DS [c]) (.int r) := ⟨_, F.slot_str_rfind, F.type_str_rfind, fun C X Φ ρ f s v1 v2 H h1 h2 => by
  cases h1; cases h2
  refine SC.rfind ⟨Φ, fun zz1 h => h, H.toks _, ?_⟩
  have e : Txt.rfind (T l) (T [c]) = r := by
    unfold Txt.rfind
    rcases StrLaws.last_spec (T l) (T [c]) with ⟨e, n⟩ | ⟨i, e, hi, n⟩
    · rw [e]
      rcases h with ⟨_, rfl⟩ | ⟨a, b, rfl, _, _⟩
      · rfl
      · exact absurd (at_one.mpr (by simp : (a ++ c :: b)[a.length]? = some c)) (n _)
    · rw [e]
      have hi' := at_one.mp hi
      rcases h with ⟨hn, _⟩ | ⟨a, b, rfl, hb, rfl⟩
      · exact absurd (List.mem_of_getElem? hi') hn
      · have h1 : a.length ≤ i := Nat.not_lt.mp fun hlt => n _ hlt (at_one.mpr (by simp))
        have h2 : i = a.length := by
          rcases Nat.lt_or_eq_of_le h1 with h3 | h3
          · exfalso
            rw [List.getElem?_append_right h1] at hi'
            obtain ⟨j, hj⟩ : ∃ j, i - a.length = j + 1 := ⟨i - a.length - 1, by lia⟩
            rw [hj, List.getElem?_cons_succ] at hi'
            exact hb (List.mem_of_getElem? hi')
          · exact h3.symm
        rw [h2]
  rw [e]
  exact .int _ _⟩

noncomputable def rstripL (c : Nat) (l : List Nat) : List Nat := (l.reverse.dropWhile (· == c)).reverse
theorem rstrip_eq (c : Nat) : Txt.rstripChars (T l) (T [c]) = T (rstripL c l) := by
  unfold Txt.rstripChars
  rw [PyProof.Rows.stripBy_eq]
  refine Str.ext' (Array.toList_inj.mp ?_)
  rw [StrLaws.strSub_toList]
  have e : (T [c]).cps.contains = (· == c) := by
    funext y
    show (#[c] : Array Nat).contains y = _
    by_cases h : y = c <;> simp [h]
  simp only [stripLo, stripHi, if_true, T_list, T_len, e, Bool.false_eq_true, if_false, List.drop_zero, Nat.sub_zero]
  unfold rstripL
  have h1 : l = (l.reverse.dropWhile (· == c)).reverse ++ (l.reverse.takeWhile (· == c)).reverse := by
    rw [← List.reverse_append, List.takeWhile_append_dropWhile, List.reverse_reverse]
  have h2 : l.length - (l.reverse.takeWhile (· == c)).length = (l.reverse.dropWhile (· == c)).reverse.length := by
    have := congrArg List.length h1
    simp only [List.length_append, List.length_reverse] at this ⊢
    lia
  rw [h2]
  generalize (l.reverse.dropWhile (· == c)).reverse = u at h1 ⊢
  rw [h1, List.take_left]
theorem meth_rstrip (c : Nat) (hz : l.length ≤ 1000000) : MethS1 "rstrip" l (DS [c]) (DS (rstripL c l)) := ⟨_, F.slot_str_rstrip, F.type_str_rstrip, fun C X Φ ρ f s v1 v2 H h1 h2 => by
  cases h1; cases h2
  exact SC.rstripChars (fun t' k => ⟨Φ, fun zz1 h => h, H.toks _, by rw [rstrip_eq]; exact .str _ _⟩) (by rw [T_len, sizeLine_eq]; lia)⟩

noncomputable def joinL (c : Nat) : List (List Nat) → List Nat
  | [] => []
  | [x] => x
  | x :: y :: r => x ++ c :: joinL c (y :: r)
theorem join_eq (c : Nat) : ∀ xs : List (List Nat), Txt.join (T [c]) (xs.map T) = T (joinL c xs) := by
  intro xs
  show Builtin.Str.glued _ _ = _
  rw [StrLaws.glued_eq_join]
  induction xs with
  | nil => rfl
  | cons x r ih =>
    cases r with
    | nil => rfl
    | cons y r =>
      show T x ++ T [c] ++ Str.join (T [c]) ((y :: r).map T) = _
      rw [ih, T_app, T_app]
      simp [joinL]
noncomputable def splitL (c : Nat) : List Nat → List (List Nat)
  | [] => [[]]
  | a :: r => if a = c then [] :: splitL c r else match splitL c r with
    | [] => [[a]]
    | x :: xs => (a :: x) :: xs
theorem splitL_ne (c : Nat) : ∀ l, splitL c l ≠ []
  | [] => by simp [splitL]
  | a :: r => by
    unfold splitL
    split
    · simp
    · split <;> simp
theorem splitL_free {c : Nat} {a : List Nat} (ha : c ∉ a) : splitL c a = [a] := by
  induction a with
  | nil => rfl
  | cons b r ih =>
    simp only [List.mem_cons, not_or] at ha
    unfold splitL
    rw [if_neg (Ne.symm ha.1), ih ha.2]
theorem splitL_cons {c : Nat} {a r : List Nat} (ha : c ∉ a) : splitL c (a ++ c :: r) = a :: splitL c r := by
  induction a with
  | nil => simp [splitL]
  | cons b t ih =>
    simp only [List.mem_cons, not_or] at ha
    show (if b = c then [] :: splitL c (t ++ c :: r) else match splitL c (t ++ c :: r) with | [] => [[b]] | x :: xs => (b :: x) :: xs) = _
    rw [if_neg (Ne.symm ha.1), ih ha.2]
theorem splitL_join {c : Nat} : ∀ {xs : List (List Nat)}, xs ≠ [] → (∀ x ∈ xs, c ∉ x) → splitL c (joinL c xs) = xs
  | [x], _, h => splitL_free (h x (.head _))
  | x :: y :: r, _, h => by
    unfold joinL
    rw [splitL_cons (h x (.head _)), splitL_join (by simp) fun z hz => h z (.tail _ hz)]
theorem split_eq (c : Nat) (l : List Nat) : Txt.split (T l) (T [c]) = (splitL c l).map T := by
  have h1 := StrLaws.join_split (T l) (T [c])
  have h2 := StrLaws.split_free (T l) c
  have h3 := split_pos (T l) (T [c])
  have h2' : ∀ p ∈ Txt.split (T l) (T [c]), c ∉ p.cps.toList := h2
  clear h2
  generalize Txt.split (T l) (T [c]) = ps at h1 h2' h3
  have e : ps = (ps.map (·.cps.toList)).map T := by
    rw [List.map_map]
    have : (T ∘ fun x : Str => x.cps.toList) = id := funext fun x => by cases x; rfl
    rw [this, List.map_id]
  generalize hx : ps.map (·.cps.toList) = xs at e
  subst e
  have h4 : Str.join (T [c]) (xs.map T) = T (joinL c xs) := by
    rw [← join_eq]; exact (StrLaws.glued_eq_join _ _).symm
  rw [h4] at h1
  have h5 := T_inj h1
  have h6 : splitL c l = xs := by
    rw [← h5]
    refine splitL_join (fun e => by subst e; simp at h3) fun x hx => ?_
    exact h2' (T x) (List.mem_map.mpr ⟨x, hx, rfl⟩)
  rw [h6]
theorem splitL_len (c : Nat) : ∀ l, (splitL c l).length ≤ l.length + 1
  | [] => by simp [splitL]
  | a :: r => by
    have := splitL_len c r
    unfold splitL
    split
    · simp; lia
    · split
      · simp
      · rename_i e; rw [e] at this; simp at this ⊢; lia

theorem strsOf {Φ : Led} : ∀ {vs : List Value} {xs : List (List Nat)}, DatAll Φ vs (xs.map DS) → ∃ l : List (Str × Tok), vs = strValues l ∧ l.map (·.1) = xs.map T
  | _, [], .nil => ⟨[], rfl, rfl⟩
  | _, x :: xs, .cons h r => by
    obtain ⟨l, e1, e2⟩ := strsOf r
    cases h
    exact ⟨(T x, _) :: l, by rw [e1]; rfl, by simp [e2]⟩
theorem strsTo {Φ : Led} : ∀ {l : List (Str × Tok)} {xs : List (List Nat)}, l.map (·.1) = xs.map T → DatAll Φ (strValues l) (xs.map DS)
  | [], [], _ => .nil
  | (y, t) :: l, x :: xs, e => by
    simp only [List.map_cons, List.cons.injEq] at e
    obtain ⟨rfl, e⟩ := e
    exact .cons (.str _ _) (strsTo e)
  | [], _ :: _, e => by simp at e
  | _ :: _, [], e => by simp at e

theorem meth_split (c : Nat) (hz : l.length ≤ 1000000) : MethS1 "split" l (DS [c]) (.list ((splitL c l).map DS)) := ⟨_, F.slot_str_split, F.type_str_split, fun C X Φ ρ f s v1 v2 H h1 h2 => by
  cases h1; cases h2
  rename_i t u
  have hs := splitL_len c l
  have hx : (T l).length ≤ sizeLine := by rw [T_len, sizeLine_eq]; lia
  have he := split_eq c l
  have fin : ∀ (lt : List (Str × Tok)) (tk : Nat), lt.map (·.1) = Txt.split (T l) (T [c]) →
      Got C X Φ ρ f (.dat (.list ((splitL c l).map DS))) (.ref s.heap.objs.size) { s with toks := tk, heap := s.heap.push { cls := .type "list", data := .seq (strValues lt).toArray } } :=
    fun lt tk e => ⟨_, fun zz1 h => .tail _ h, H.push (listOf (strValues lt).toArray 0) tk rfl, .list (.head _) (strsTo (by rw [e, he]))⟩
  unfold Txt.split at he fin
  cases h1 : (decide ((T l).length < (T [c]).length) || decide (Builtin.Str.strKind (T l) < Builtin.Str.strKind (T [c])))
  · rw [h1, if_neg (by simp)] at he fin
    cases hf : (Builtin.Str.occurrences (T l) (T [c]) 0 (T l).length ((T l).length + 1)).isEmpty
    · rw [hf, if_neg (by simp)] at he fin
      refine call_meets F.slot_str_split (typeIs_str _ _ _) F.entry_str_split (F.args_str_split_2 _ _) (meets_str_split_sep (T l) (T [c]) t u h1 (by simp [T_len]) hf hx (by rw [he, List.length_map, sizeLine_eq]; lia)) ?_
      rw [strsFrom_eq]
      exact fin _ _ (numbered_texts _ _)
    · rw [hf, if_pos rfl] at he fin
      exact call_meets F.slot_str_split (typeIs_str _ _ _) F.entry_str_split (F.args_str_split_2 _ _) (meets_str_split_not_found (T l) (T [c]) t u h1 (by simp [T_len]) hf) (fin [(T l, t)] _ rfl)
  · rw [h1, if_pos rfl] at he fin
    exact call_meets F.slot_str_split (typeIs_str _ _ _) F.entry_str_split (F.args_str_split_2 _ _) (meets_str_split_cannot_occur (T l) (T [c]) t u h1) (fin [(T l, t)] _ rfl)⟩

theorem meth_join (c : Nat) {xs : List (List Nat)} (hz : ∀ x ∈ xs, x.length ≤ 10000) (hn : xs.length ≤ 1000) : MethS1 "join" [c] (.list (xs.map DS)) (DS (joinL c xs)) := ⟨_, F.slot_str_join, F.type_str_join, fun C X Φ ρ f s v1 v2 H h1 h2 => by
  cases h1
  obtain ⟨a, vs, n, rfl, hm, hD⟩ := DatIn.listInv h2
  obtain ⟨lt, rfl, e⟩ := strsOf hD
  refine SC.join ⟨_, H.led _ hm, rfl, _, rfl⟩ e ?_ fun t' k => ⟨Φ, fun zz1 h => h, H.toks _, by rw [join_eq]; exact .str _ _⟩
  unfold JoinOk
  rw [StrLaws.joinFits (B := 10000) (fun y hy => by
    obtain ⟨x, hx, rfl⟩ := List.mem_map.mp hy
    rw [T_len]; exact hz x hx) (by rw [List.length_map, T_len, List.length_singleton]; lia)]
  rfl⟩
end
end Mine
end
section
open PySem PySem.W PySem.Calls PyProof.Rows PyProof.V
namespace Mine

structure Site (w : World) (mg mb : Str → Option Value) (hB : Heap) (A : Around) (stk : List Env) (Φ : Led) (s : Shared) (lv : Nat) : Prop where
  wd : Wd w mg mb hB
  base : ∀ b o, hB.get? b = some o → s.heap.get? b = some o
  frames : A.frames = some stk
  stk : Stk hB s.heap stk
  hand : A.handled = none
  room : A.depth + lv ≤ 900 ∧ A.units + 20 * lv + 200 ≤ cLine
  led : ∀ p ∈ Φ, s.heap.get? p.1 = some p.2
  seq : ∀ p ∈ Φ, ∃ xs n, p.2.data = .seq xs n
  above : hB.objs.size ≤ s.heap.objs.size

structure Left (stk : List Env) (Φ Φ' : Led) (s s' : Shared) : Prop where
  sub : ∀ p ∈ Φ, p ∈ Φ'
  new : ∀ p ∈ Φ', p ∈ Φ ∨ (s'.heap.get? p.1 = some p.2 ∧ s.heap.get? p.1 = none ∧ ∃ xs n, p.2.data = .seq xs n)
  upto : Upto (frs stk) s.heap s'.heap
  gens : s'.gens = s.gens
  os : s'.os = s.os

theorem len1 {p : List Value → Prop} (h : ∀ a, p [a]) : ∀ vs : List Value, vs.length = 1 → p vs := fun vs hl => by
  cases vs with
  | nil => cases hl
  | cons a r =>
    have e := List.eq_nil_of_length_eq_zero (Nat.succ.inj hl)
    subst e; exact h a
theorem len2 {p : List Value → Prop} (h : ∀ a b, p [a, b]) : ∀ vs : List Value, vs.length = 2 → p vs := fun vs hl => by
  cases vs with
  | nil => cases hl
  | cons a r => exact len1 (p := fun r => p (a :: r)) (h a) r (Nat.succ.inj hl)
theorem len3 {p : List Value → Prop} (h : ∀ a b c, p [a, b, c]) : ∀ vs : List Value, vs.length = 3 → p vs := fun vs hl => by
  cases vs with
  | nil => cases hl
  | cons a r => exact len2 (p := fun r => p (a :: r)) (h a) r (Nat.succ.inj hl)
noncomputable def FnJ (nm : Str) (lv : Nat) (as : List Dat) (r : AV) : Prop :=
  ∀ w mg mb hB A stk Φ s vs a, Site w mg mb hB A stk Φ s lv → DatAll Φ vs as → mg nm = some (.ref a) →
    codeAny (model P w) A (.call (.ref a) ⟨vs, []⟩) (fun res s' => ∃ v Φ', res = .ok (.ret v) ∧ r.In Φ' v ∧ Left stk Φ Φ' s s') s

set_option genInjectivity false in
structure FnP where
  w : World
  mg : Str → Option Value
  mb : Str → Option Value
  hB : Heap
  h₀ : Heap
  Φ₀ : Led
  L : Addr
  a : Addr
  cd : Value
  stk : List Env
  A : Around
  gens : Array GenState
  os : OsState

noncomputable def fnEnv (nm : Str) (sc : Scope) (L a : Addr) (cd : Value) : Env := newEnv sc L mainGlobals (cellsFrom (L + 1) sc.names []) (nm ++ ".<locals>.") (some a) cd none builtinsNs
noncomputable def fnC (nm : Str) (sc : Scope) (lv : Nat) (p : FnP) : Cx where
  w := p.w
  mg := p.mg
  mb := p.mb
  hB := p.hB
  h₀ := p.h₀
  Φ₀ := p.Φ₀
  env := fnEnv nm sc p.L p.a p.cd
  stk := fnEnv nm sc p.L p.a p.cd :: p.stk
  fs := frs p.stk
  A := p.A.deeper (fnEnv nm sc p.L p.a p.cd)
  gens := p.gens
  os := p.os
  mc := cellsFrom (p.L + 1) sc.names []
  lv := lv

theorem bindL_not {kd : Str → Option NameKind} {x : Str} : ∀ {l : List (Str × Value)} {m : Str → Option Value}, x ∉ l.map (·.1) → bindL kd l m x = m x
  | [], _, _ => rfl
  | (n, u) :: r, m, h => by
    simp only [List.map_cons, List.mem_cons, not_or] at h
    unfold bindL
    rw [bindL_not h.2]
    split
    · simp [h.1]
    · rfl
theorem bindC_not {kd : Str → Option NameKind} {x : Str} : ∀ {l : List (Str × Value)} {m : Str → Option Value}, x ∉ l.map (·.1) → bindC kd l m x = m x
  | [], _, _ => rfl
  | (n, u) :: r, m, h => by
    simp only [List.map_cons, List.mem_cons, not_or] at h
    unfold bindC
    rw [bindC_not h.2]
    split
    · rfl
    · simp [h.1]
theorem bindL_mem {kd : Str → Option NameKind} {x : Str} {v : Value} (hk : kd x = some .local) : ∀ {l : List (Str × Value)} {m : Str → Option Value}, (l.map (·.1)).Nodup → (x, v) ∈ l → bindL kd l m x = some v
  | (n, u) :: r, m, hn, h => by
    rw [List.map_cons, List.nodup_cons] at hn
    unfold bindL
    rcases List.mem_cons.mp h with e | h
    · cases e
      rw [bindL_not hn.1, if_pos hk]; simp
    · exact bindL_mem hk hn.2 h
theorem bindC_mem {kd : Str → Option NameKind} {x : Str} {v : Value} (hk : kd x = some .cell) : ∀ {l : List (Str × Value)} {m : Str → Option Value}, (l.map (·.1)).Nodup → (x, v) ∈ l → bindC kd l m x = some v
  | (n, u) :: r, m, hn, h => by
    rw [List.map_cons, List.nodup_cons] at hn
    unfold bindC
    rcases List.mem_cons.mp h with e | h
    · cases e
      rw [bindC_not hn.1, if_neg (by rw [hk]; simp)]; simp
    · exact bindC_mem hk hn.2 h
theorem loc_zip {Φ : Led} {x : Str} {av : AV} : ∀ {ns : List Str} {vs : List Value} {ds : List Dat}, DatAll Φ vs ds → ns.length = ds.length → (ns.zip (ds.map AV.dat)).lookup x = some av → ∃ v, (x, v) ∈ ns.zip vs ∧ av.In Φ v ∧ ∀ es, av ≠ .own es
  | [], _, _, _, _, e => by simp at e
  | n :: ns, _, _, .cons (v := v) h r, hl, e => by
    simp only [List.map_cons, List.zip_cons_cons, List.lookup_cons] at e ⊢
    by_cases hx : x = n
    · subst hx
      simp only [beq_self_eq_true] at e
      cases e
      exact ⟨_, .head _, h, fun zz1 q => nomatch q⟩
    · have hb : (x == n) = false := beq_eq_false_iff_ne.mpr hx
      simp only [hb] at e
      obtain ⟨u, h1, h2⟩ := loc_zip r (by simpa using hl) e
      exact ⟨u, .tail _ h1, h2⟩
  | n :: ns, _, _, .nil, hl, e => by simp at hl

theorem zip_fst {α β : Type} : ∀ {l : List α} {r : List β}, l.length = r.length → (l.zip r).map (·.1) = l
  | [], _, _ => rfl
  | a :: l, b :: r, h => by simp [zip_fst (l := l) (r := r) (by simpa using h)]
  | a :: l, [], h => by simp at h

theorem enterAt {nm : Str} {sc : Scope} {lv : Nat} {w : World} {mg mb : Str → Option Value} {hB : Heap} {A : Around} {stk : List Env} {Φ : Led} {s s' : Shared} {a : Addr} {cd : Value} {ns : List Str} {vs : List Value} {ds : List Dat}
    (S : Site w mg mb hB A stk Φ s (lv + 1)) (hD : DatAll Φ vs ds) (hn : ns.length = ds.length) (hnd : ns.Nodup) (hsk : sc.kind = .function) (hcn : ((cellsFrom 0 sc.names []).map (·.1)).Nodup)
    (hkd : ∀ x ∈ ns, sc.names.lookup x = some .local ∨ sc.names.lookup x = some .cell)
    (x : InCallC s (s.heap.objs.size) (bindL (fnEnv nm sc s.heap.objs.size a cd).kindOf (ns.zip vs) fun zz1 => none) (fnEnv nm sc s.heap.objs.size a cd).cells (bindC (fnEnv nm sc s.heap.objs.size a cd).kindOf (ns.zip vs) fun zz1 => none) s') :
    At (fnC nm sc lv ⟨w, mg, mb, hB, s.heap, Φ, s.heap.objs.size, a, cd, stk, A, s.gens, s.os⟩) [] Φ (ns.zip (ds.map AV.dat)) s' := by
  obtain ⟨h₁, tk, rfl, k⟩ := x.done
  have hlen := hD.length
  have hvs : ns.length = vs.length := by rw [hlen, hn]
  have lk : ∀ n c, (n, c) ∈ cellsFrom (s.heap.objs.size + 1) sc.names [] → (cellsFrom (s.heap.objs.size + 1) sc.names []).lookup n = some c := fun n c hm =>
    lookup_of_mem_nodup (cellsFrom_names sc.names 0 (s.heap.objs.size + 1) [] [] rfl ▸ hcn) hm
  have hLns := x.toInCall.ns
  have hframe : ∃ f, (fnEnv nm sc s.heap.objs.size a cd).frame = some f ∧ f = s.heap.objs.size := ⟨_, rfl, rfl⟩
  have hfs : ∀ b ∈ frs stk, ∃ o es n, s.heap.get? b = some o ∧ o.data = .dict es n := fun b hb => (S.stk.at hb).2
  refine ⟨⟨bindL (fnEnv nm sc s.heap.objs.size a cd).kindOf (ns.zip vs) fun zz1 => none, []⟩, ?_⟩
  refine
    { ok :=
        { wd := S.wd, kind := hsk, glob := rfl, blt := rfl, stk := (Around.frames_deeper S.frames)
          two := fun b hb => ?_, fsd := fun b hb => ⟨?_, hfs b hb⟩, frame := ⟨_, rfl, rfl⟩, room := ?_, cel := fun y hy => ?_, inj := fun y z c h1 h2 => ?_ }
      fr := ⟨hLns, fun b o e => k b o (S.base b o e), S.above⟩
      baseIn := fun b o e => S.base b o e, keep := .of k
      stk := fun env he => ?_, led := fun p hp => k _ _ (S.led p hp), seq := S.seq, ledm := fun p hp hm => ?_, xtr := fun zz1 h => absurd h List.not_mem_nil, xtrm := fun zz1 h => absurd h List.not_mem_nil, xled := fun zz1 h => absurd h List.not_mem_nil, xnew := fun zz1 h => absurd h List.not_mem_nil, xcel := fun zz1 h => absurd h List.not_mem_nil, xnd := .nil
      src := fun p hp => .inl hp, own := fun zz1 h => absurd h List.not_mem_nil, cells := fun q hq => ⟨_, x.cell q.1 q.2 (lk _ _ hq)⟩, nodup := ?_, nms := .nil
      fresh := fun b hb => ?_, loc := fun y av e => ?_, gens := rfl, os := rfl }
  · simp only [frs, fnC, List.filterMap_cons, show (fnEnv nm sc s.heap.objs.size a cd).frame = some s.heap.objs.size from rfl] at hb
    rcases List.mem_cons.mp hb with e | e
    · exact .inl e
    · exact .inr e
  · simp only [frs, fnC, List.filterMap_cons, show (fnEnv nm sc s.heap.objs.size a cd).frame = some s.heap.objs.size from rfl]
    exact .tail _ hb
  · have h1 := S.room
    simp only [fnC, Around.deeper_units]
    refine ⟨?_, ?_⟩
    · show A.depth + 1 + lv ≤ 900
      lia
    · lia
  · obtain ⟨c, hc⟩ := Option.isSome_iff_exists.mp (cellsFrom_some sc.names (s.heap.objs.size + 1) [] (.inl hy))
    exact ⟨c, hc⟩
  · exact name_of_addr x.apart (mem_of_lookup h1) (mem_of_lookup h2)
  · rcases List.mem_cons.mp he with rfl | he
    · obtain ⟨o, es, n, ho, hd, _⟩ := hLns
      refine ⟨by show sc.kind ≠ .module; rw [hsk]; decide, s.heap.objs.size, o, es, n, rfl, ?_, ho, hd⟩
      show hB.get? s.heap.objs.size = none
      cases q : hB.get? s.heap.objs.size with
      | none => rfl
      | some o => exact absurd (Heap.lt_size (S.base _ _ q)) (Nat.lt_irrefl _)
    · exact (S.stk.upto (.of k : Upto [] _ _)) env he
  · have h1 := Heap.lt_size (S.led p hp)
    rcases List.mem_cons.mp hm with e | e
    · exact absurd (e ▸ h1) (Nat.lt_irrefl _)
    · rw [List.map_nil, List.append_nil] at e
      obtain ⟨q, hq, e⟩ := List.mem_map.mp e
      have h2 : s.heap.objs.size < q.2 := x.above q.1 q.2 hq
      have e' : q.2 = p.1 := e
      rw [e'] at h2
      exact absurd (Nat.lt_trans h1 h2) (Nat.lt_irrefl _)
  · simp only [muts, List.map_nil, List.append_nil]
    refine List.nodup_cons.mpr ⟨fun hm => ?_, ?_⟩
    · obtain ⟨q, hq, e⟩ := List.mem_map.mp hm
      have h2 : s.heap.objs.size < q.2 := x.above q.1 q.2 hq
      have e' : q.2 = s.heap.objs.size := e
      exact absurd (e' ▸ h2) (Nat.lt_irrefl _)
    · exact List.pairwise_map.mpr x.apart
  · refine Heap.get?_none_of_le ?_
    show s.heap.objs.size ≤ b
    simp only [muts, List.map_nil, List.append_nil] at hb
    rcases List.mem_cons.mp hb with e | e
    · exact Nat.le_of_eq e.symm
    · obtain ⟨q, hq, e⟩ := List.mem_map.mp e
      have h2 : s.heap.objs.size < q.2 := x.above q.1 q.2 hq
      have e' : q.2 = b := e
      exact Nat.le_of_lt (e' ▸ h2)
  · obtain ⟨v, h1, h2, h3⟩ := loc_zip hD hn e
    have hmem : y ∈ ns := by
      have h9 : (y, v).1 ∈ (ns.zip vs).map (·.1) := List.mem_map.mpr ⟨(y, v), h1, rfl⟩
      rw [zip_fst hvs] at h9; exact h9
    have hnd' : ((ns.zip vs).map (·.1)).Nodup := by rw [zip_fst hvs]; exact hnd
    refine ⟨v, ?_, by cases av with | dat d => exact h2 | val u => exact h2 | own es => exact absurd rfl (h3 es)⟩
    rcases hkd y hmem with hk | hk
    · exact .inl ⟨hk, bindL_mem hk hnd' h1⟩
    · obtain ⟨c, hc⟩ := Option.isSome_iff_exists.mp (cellsFrom_some sc.names (s.heap.objs.size + 1) [] (.inl hk))
      exact .inr ⟨.inl hk, c, hc, (bindC_mem (kd := (fnEnv nm sc s.heap.objs.size a cd).kindOf) hk hnd' h1) ▸ x.cell y c hc⟩

noncomputable def RetIs (r : AV) : Out → Prop
  | .ret av => av = r
  | .next _ => r = .val .none
  | _ => False

noncomputable def atP (w : World) (mg mb : Str → Option Value) (hB : Heap) (A : Around) (stk : List Env) (Φ : Led) (s : Shared) (a : Addr) (cd : Value) : FnP := ⟨w, mg, mb, hB, s.heap, Φ, s.heap.objs.size, a, cd, stk, A, s.gens, s.os⟩
inductive Bound (w : World) (mg mb : Str → Option Value) (hB : Heap) (A : Around) (stk : List Env) (lv : Nat) (ns : List Str) (ds : List Dat) (Z : Led → Shared → Result → Shared → Prop) (K : Result → Shared → Prop) (bs : List (Str × Value)) (s1 : Shared) : Prop
  | mk (vs : List Value) (Φ1 : Led) (e : bs = ns.zip vs) (D : DatAll Φ1 vs ds) (S : Site w mg mb hB A stk Φ1 s1 (lv + 1)) (k : ∀ res s2, Z Φ1 s1 res s2 → K res s2) : Bound w mg mb hB A stk lv ns ds Z K bs s1
noncomputable def outV : Flow → Value
  | .ret v => v
  | _ => .none
theorem callCore {nm : Str} {lv : Nat} {pr : Arguments} {bd : List Stmt} {sc : Scope} {ns : List Str} {ds : List Dat} {w : World} {mg mb : Str → Option Value} {hB : Heap} {A : Around} {stk : List Env} {Φ : Led} {s : Shared} {vs0 : List Value} {a : Addr}
    {Q : Out → Prop} {Z : Led → Shared → Result → Shared → Prop} {K : Result → Shared → Prop} (S : Site w mg mb hB A stk Φ s (lv + 1)) (ha : mg nm = some (.ref a)) (hdef : defOf nm P.main.body = some (pr, bd, sc)) (hf : nm ∈ fnNames)
    (hbind : ∀ doc pm an cd ct, wpAny (model P w) A.in1 (bindArgs (fnOf nm nm pr bd sc .none .none doc pm an cd ct) ⟨vs0, []⟩) (Bound w mg mb hB A stk lv ns ds Z K) (fun zz1 zz2 => False) s)
    (hn : ns.length = ds.length) (hnd : ns.Nodup) (hcn : ((cellsFrom 0 sc.names []).map (·.1)).Nodup) (hkd : ∀ x ∈ ns, sc.names.lookup x = some .local ∨ sc.names.lookup x = some .cell)
    (body : ∀ p : FnP, (fnC nm sc lv p).A.handled = none → ExJ (fnC nm sc lv p) (ns.zip (ds.map AV.dat)) bd Q)
    (fin : ∀ Φ1 s1 cd fl s2, Done (fnC nm sc lv (atP w mg mb hB A stk Φ1 s1 a cd)) [] Φ1 Q fl s2 → Z Φ1 s1 (.ok (.ret (outV fl))) s2)
    (fine : ∀ Φ1 s1 cd e s2, DoneE (fnC nm sc lv (atP w mg mb hB A stk Φ1 s1 a cd)) [] Φ1 Q e s2 → wpAny (model P w) (A.deeper (fnEnv nm sc s1.heap.objs.size a cd)) (leaving (fnEnv nm sc s1.heap.objs.size a cd) e) (fun zz1 s3 => Z Φ1 s1 (.error e) s3) (fun e s3 => Z Φ1 s1 (.error e) s3) s2)
    (hsk : sc.kind = .function) (hco : sc.isCoroutine = false) (hg : sc.isGenerator = false) : codeAny (model P w) A (.call (.ref a) ⟨vs0, []⟩) K s := by
  obtain ⟨a', o, pr', bd', sc', doc, pm, an, cd, ct, e, hm, ho, hd, hc⟩ := S.wd.fns nm hf
  rw [hdef] at e; cases e
  rw [ha] at hm; cases hm
  refine codeAny_call_function (by have := S.room.1; unfold recursionLimit; lia) (S.base _ _ ho) hd hco hg rfl (hc.keeps S.base) (wpAny_mono (hbind doc pm an cd ct) (fun bs s1 B => ?_) fun zz1 zz2 f => f.elim)
  cases B with
  | mk vs Φ1 e hD S1 hk => ?_
  subst e
  have hvs : ns.length = vs.length := by rw [hD.length, hn]
  refine wpAny_newFunctionEnv_cells hsk (fun y hy => ?_) fun env' he s' x => ?_
  · have hmem : y.1 ∈ ns := by
      have h9 : y.1 ∈ (ns.zip vs).map (·.1) := List.mem_map.mpr ⟨y, hy, rfl⟩
      rw [zip_fst hvs] at h9; exact h9
    exact (hkd _ hmem).imp id fun hk => ⟨hk, cellsFrom_some _ _ _ (.inl hk)⟩
  subst he
  refine ⟨(S1.wd.lim.keeps S1.base).keeps x.toInCall.keep, codeAny_func ?_⟩
  obtain ⟨f, B⟩ := enterAt (nm := nm) (lv := lv) (cd := cd) (a := a) S1 hD hn hnd hsk hcn hkd x
  refine wpAny_mono (body (atP w mg mb hB A stk Φ1 s1 a cd) S1.hand [] Φ1 f s' B) (fun fl s2 hdn => ?_) fun e s2 hde => ?_
  · have q := hk _ _ (fin Φ1 s1 cd fl s2 hdn)
    cases fl <;> exact q
  · exact wpAny_mono (fine Φ1 s1 cd e s2 hde) (fun zz1 s3 h => hk _ _ h) fun e s3 h => hk _ _ h
noncomputable def RetZ (stk : List Env) (r : AV) (Φ : Led) (s : Shared) (res : Result) (s' : Shared) : Prop := ∃ v Φ', res = .ok (.ret v) ∧ r.In Φ' v ∧ Left stk Φ Φ' s s'
theorem retZ {nm : Str} {sc : Scope} {lv : Nat} {r : AV} {w : World} {mg mb : Str → Option Value} {hB : Heap} {A : Around} {stk : List Env} {Φ : Led} {s s' : Shared} {a : Addr} {cd : Value} {fl : Flow}
    (h : Done (fnC nm sc lv (atP w mg mb hB A stk Φ s a cd)) [] Φ (RetIs r) fl s') : RetZ stk r Φ s (.ok (.ret (outV fl))) s' := by
  obtain ⟨Φ', o', g1, g2, g3⟩ := h
  have fin : ∀ {ρ' : Loc} {v : Value}, At (fnC nm sc lv (atP w mg mb hB A stk Φ s a cd)) [] Φ' ρ' s' → r.In Φ' v → RetZ stk r Φ s (.ok (.ret v)) s' := fun {ρ' v} ⟨f2, H⟩ hv =>
    ⟨v, Φ', rfl, hv, g1, fun p hp => (H.src p hp).imp id fun h0 => ⟨H.led p hp, h0, H.seq p hp⟩, H.keep, H.gens, H.os⟩
  cases g3.got with
  | next h =>
    have e : r = .val .none := g2
    exact fin h (e ▸ rfl)
  | brk h => exact g2.elim
  | cont h => exact g2.elim
  | ret h hv =>
    have e : _ = r := g2
    exact fin h (e ▸ hv)
theorem retE {nm : Str} {sc : Scope} {lv : Nat} {r : AV} {p : FnP} {Φ : Led} {s' : Shared} {e : Value} (h : DoneE (fnC nm sc lv p) [] Φ (RetIs r) e s') : False := by
  obtain ⟨_, _, _, _, _, q, _⟩ := h
  exact q
theorem FnJ.intro {nm : Str} {lv : Nat} {pr : Arguments} {bd : List Stmt} {sc : Scope} {ns : List Str} {ds : List Dat} {r : AV} (hdef : defOf nm P.main.body = some (pr, bd, sc)) (hf : nm ∈ fnNames)
    (hbind : ∀ doc pm an cd ct (vs : List Value), vs.length = ds.length → bindArgs (fnOf nm nm pr bd sc .none .none doc pm an cd ct) ⟨vs, []⟩ = pure (ns.zip vs))
    (hn : ns.length = ds.length) (hnd : ns.Nodup) (hcn : ((cellsFrom 0 sc.names []).map (·.1)).Nodup) (hkd : ∀ x ∈ ns, sc.names.lookup x = some .local ∨ sc.names.lookup x = some .cell)
    (body : ∀ p : FnP, (fnC nm sc lv p).A.handled = none → ExJ (fnC nm sc lv p) (ns.zip (ds.map AV.dat)) bd (RetIs r))
    (hsk : sc.kind = .function := by rfl) (hco : sc.isCoroutine = false := by rfl) (hg : sc.isGenerator = false := by rfl) : FnJ nm (lv + 1) ds r := fun w mg mb hB A stk Φ s vs a S hD ha =>
  callCore (Z := RetZ stk r) S ha hdef hf (fun doc pm an cd ct => wpAny_of_eq (hbind doc pm an cd ct vs hD.length) ⟨vs, Φ, rfl, hD, S, fun zz1 zz2 h => h⟩) hn hnd hcn hkd body (fun zz1 zz2 zz3 zz4 zz5 h => retZ h) (fun zz1 zz2 zz3 zz4 zz5 h => (retE h).elim) hsk hco hg

/-! calling it -/
section
variable {C : Cx} {X Φ Φ' : Led} {ρ ρ' : Loc} {m : Str → Option Value} {ow : List OwnE} {s s' : Shared} {x : Str} {pos sp ap cp np : Pos} {av : AV} {v : Value} {ds : List Dat} {e : Expr}

inductive GotA (C : Cx) (X Φ : Led) (ρ : Loc) (f : Fm) (ds : List Dat) (vs : List Value) (s' : Shared) : Prop
  | mk (Φ' : Led) (g : ∀ p ∈ Φ, p ∈ Φ') (H : AtF C X Φ' ρ f s') (i : DatAll Φ' vs ds) : GotA C X Φ ρ f ds vs s'
noncomputable def ArgsJ (C : Cx) (ρ : Loc) (ts : List (Bool × Sem Value)) (ds : List Dat) : Prop :=
  ∀ X Φ f s, AtF C X Φ ρ f s → wpAny (model P C.w) C.A (spliced ts) (GotA C X Φ ρ f ds) (fun zz1 zz2 => False) s
theorem ArgsJ.nil : ArgsJ C ρ [] [] := fun X Φ f s H => Calls.spliced_nil ⟨Φ, fun zz1 h => h, H, .nil⟩
theorem ArgsJ.cons {d : Dat} {ts : List (Bool × Sem Value)} (h : EvJ C ρ e (.dat d)) (r : ArgsJ C ρ ts ds) : ArgsJ C ρ ((false, eval e C.env) :: ts) (d :: ds) := fun X Φ f s H =>
  Calls.spliced_cons (wpAny_mono (h X Φ f s H) (fun v s1 ⟨Φ1, g1, H1, i1⟩ => wpAny_mono (r X Φ1 f s1 H1) (fun vs s2 ⟨Φ2, g2, H2, i2⟩ => ⟨Φ2, fun p hp => g2 p (g1 p hp), H2, .cons (DatIn.mono g2 i1) i2⟩) fun zz1 zz2 f => f) fun zz1 zz2 f => f)

theorem AtM.site (H : AtM C X Φ ρ m ow s) (hh : C.A.handled = none) {lv : Nat} (hl : lv ≤ C.lv) : Site C.w C.mg C.mb C.hB C.A C.stk Φ s lv where
  wd := H.ok.wd
  base := H.fr.keep
  frames := H.ok.stk
  stk := H.stk
  hand := hh
  room := by
    have := H.ok.room
    lia
  led := H.led
  seq := H.seq
  above := Nat.le_trans H.fr.above (Nat.le_of_lt H.fr.ns.lt)

theorem AtM.left (H : AtM C X Φ ρ m ow s) (L : Left C.stk Φ Φ' s s') : AtM C X Φ' ρ m ow s' := H.upto L.upto L.sub L.new L.gens L.os

theorem EvJ.call {nm : Str} {lv : Nat} {args : List Expr} {r : AV} {x0 : Sem Value} {ts : List (Bool × Sem Value)} (hf : FnJ nm lv ds r) (hnm : nm ∈ fnNames) (hh : C.A.handled = none) (ha : ArgsJ C ρ ((false, x0) :: ts) ds) (hl : lv ≤ C.lv)
    (hk : C.env.kindOf nm = some .globalImplicit := by rfl) (ht : backTo cp (starEach args C.env) = (false, x0) :: ts := by rfl) (hd : (nm == ("__debug__" : Str)) = false := by decide) :
    EvJ C ρ (.Call (.Name nm np) args [] cp) r := fun X Φ f s H => by
  have ok := H.ok
  obtain ⟨a, o, pr, bd, sc, doc, pm, an, cd, ct, e, hm, ho, hdt, hc⟩ := ok.wd.fns nm hnm
  refine Call_Name ht (Name_function_global ok.kind hk (loadGlobal_global (env := C.env) (by rw [ok.glob]; exact ok.wd.g.keeps H.fr.keep) hm ?_) hd)
  refine callWith_function (o := o) (Calls.evalArgs_plain (wpAny_mono (ha X Φ f s H) (fun vs s1 ⟨Φ1, g1, H1, i1⟩ => ⟨⟨H1.fr.keep _ _ ho, hdt⟩, ?_⟩) fun zz1 zz2 f => f))
  refine wpAny_call (codeAny_mono (hf C.w C.mg C.mb C.hB C.A C.stk Φ1 s1 vs a (H1.site hh hl) i1 hm) fun res s2 ⟨v, Φ2, e, i, L⟩ => ?_)
  subst e
  exact ⟨Φ2, fun p hp => L.sub p (g1 p hp), H1.left L, i⟩
end
end Mine
end
section
open PySem PySem.W PySem.Calls PyProof.Rows PyProof.V
namespace Mine
theorem call_type_str {prog : Program} {w : World} {A : Around} {E : Value → Shared → Prop} {s : Shared} {x : Str} {u : Tok} {Q : Value → Shared → Prop} (hq : Q (.type "str") s) :
    wpAny (model prog w) A (call (.type "type") [.str x u]) Q E s := by
  obtain ⟨h, g, d, t, os⟩ := s
  refine wpAny_call (codeAny_of_tree ?_)
  show wpAny _ _ (callAny (.type "type") ⟨[.str x u], []⟩) _ _ _
  simp only [callAny]
  refine wpAny_pure ⟨Code.quiet_builtin _ (by decide +kernel), codeAny_builtin entry_type_call ?_⟩
  unfold Builtin.«type.__call__»
  dsimp only
  unfold shownTypeOf
  repeat (first | wp_step)
  exact hq

theorem issub_str {prog : Program} {w : World} {A : Around} {E : Value → Shared → Prop} {s : Shared} {Q : Fin → Shared → Prop} {k : Value} {dep : Int} {tk : Tok} (hk : k = .int dep tk) (hq : Q (.done (.ret (.bool true))) s) :
    wpAny (model prog w) A (Builtin.«issubclass.nested» ⟨[.type "str", .type "str", k], []⟩) Q E s := by
  subst hk
  have hself : isSubtype (.type "str") (.type "str") = pure true := by rw [isSubtype_type]; kernel_rfl
  have hty : typeOf (.type "str") = pure (.type "type") := by kernel_rfl
  have hsub : isSubtype (.type "type") (.type "type") = pure true := by rw [isSubtype_type]; kernel_rfl
  repeat (any_goals (first | assumption | wp_step))

theorem kind_issubn : builtinKind "issubclass.nested" = none := by decide +kernel
theorem plain_issubn : plainId "issubclass.nested" = true := by decide +kernel
theorem args_issubn (a b c : Value) : argsOk "issubclass.nested" ⟨[a, b, c], []⟩ := by unfold argsOk; kernel_rfl

theorem issub_tup {prog : Program} {w : World} {A : Around} {E : Value → Shared → Prop} {s : Shared} {Q : Value → Shared → Prop} {tp : Addr} {r xs : List Value} (hxs : xs = .type "str" :: r) (htp : s.heap.get? tp = some { cls := .type "tuple", data := .seq xs.toArray }) (hq : Q (.bool true) s) :
    wpAny (model prog w) A (call (.builtin "issubclass") [.type "str", .ref tp]) Q E s := by
  refine call_issubclass (S := fun A' R s' => s'.heap.get? tp = some { cls := .type "tuple", data := .seq xs.toArray } ∧ R (.ok (.ret (.bool true))) s') (fun prog' w' A' R s' ⟨h1, h2⟩ => issubclass_outer ?_) ⟨htp, hq⟩
  have hTt : s'.TypeIs (.ref tp) "tuple" := ⟨_, h1, rfl⟩
  have hsub := F.isi_sub_tuple
  obtain ⟨h, g, d, t, os⟩ := s'
  unfold Builtin.«issubclass.nested»
  repeat (any_goals (first | assumption | wp_step))
  refine wpAny_arrayLoop ?_
  simp only [Option.getD_some, List.toList_toArray]
  subst hxs
  rw [List.forIn_cons]
  refine wpAny_bind (wpAny_bind (call_function_meets kind_issubn plain_issubn F.entry_issubclass_nested (args_issubn _ _ _) (S := fun zz1 R s => R (.ok (.ret (.bool true))) s) (fun zz1 zz2 zz3 R s hs => issub_str rfl hs) ?_))
  show wpAny _ _ (truthy (.bool true) >>= _) _ _ _
  refine wpAny_bind (m := truthy (.bool true)) (wpAny_pure ?_)
  refine wpAny_bind (wpAny_pure (wpAny_pure (wpAny_pure ?_)))
  simp only
  repeat (any_goals (first | assumption | wp_step))

section
variable {C : Cx} {X Φ Φ' : Led} {ρ ρ' : Loc} {m : Str → Option Value} {ow : List OwnE} {s s' : Shared} {x : Str} {pos sp ap cp np n1 n2 n3 n4 tp : Pos} {av : AV} {v : Value} {k : Nat} {ds : List Dat} {e o : Expr} {l p : List Nat}

theorem biGo {Q : Value → Shared → Prop} {f : Fm} (H : AtF C X Φ ρ f s) (hx : x ∈ biNames) (hv : bootBuiltins x = some v) (h : Q v s) (hk : C.env.kindOf x = some .globalImplicit := by rfl) (hd : (x == ("__debug__" : Str)) = false := by decide) :
    wpAny (model P C.w) C.A (eval (.Name x pos) C.env) Q (fun zz1 zz2 => False) s := by
  have ok := H.ok
  obtain ⟨h1, h2⟩ := ok.wd.bi x hx
  exact Name_function_global ok.kind hk (loadGlobal_builtin (env := C.env) (by rw [ok.glob]; exact ok.wd.g.keeps (AtM.base H)) h1 (by rw [ok.blt]; exact ok.wd.b.keeps (AtM.base H)) (h2.trans hv) h) hd

theorem EvJ.typeS (he : EvJ C ρ e (.dat (DS l))) (hk : C.env.kindOf "type" = some .globalImplicit := by rfl) (hs : starEach [e] C.env = [(false, eval e C.env)] := by rfl) :
    EvJ C ρ (.Call (.Name "type" np) [e] [] cp) (.val (.type "str")) := fun X Φ f s H => by
  refine Call_Name1 (biGo H (by decide +kernel) (by rfl) ?_ hk) hs
  refine PySem.callWith_type1 (wpAny_mono (he X Φ f s H) (fun v s1 ⟨Φ1, g1, H1, i1⟩ => ?_) fun zz1 zz2 f => f)
  cases i1
  exact call_type_str ⟨Φ1, g1, H1, rfl⟩

theorem EvJ.issub {t : Nat} (hx : ρ.lookup x = some (.val (.type "str"))) (hk : C.env.kindOf "issubclass" = some .globalImplicit := by rfl) (hk2 : C.env.kindOf "str" = some .globalImplicit := by rfl) (hk3 : C.env.kindOf "bytes" = some .globalImplicit := by rfl)
    (hd : (x == ("__debug__" : Str)) = false := by decide) (hc : (x == ("__classdict__" : Str)) = false := by decide) :
    EvJ C ρ (.Call (.Name "issubclass" np) [.Name x n1, .Tuple [.Name "str" n2, .Name "bytes" n3] t tp] [] cp) (.dat (.bool true)) := fun X Φ f s H => by
  refine Call_Name2 (biGo H (by decide +kernel) (by rfl) ?_ hk) rfl
  refine Calls.callWith_builtin rfl (Calls.evalArgs_plain (Calls.spliced_cons ?_))
  refine wpAny_mono (EvJ.nameV (pos := n1) hx hd hc X Φ f s H) (fun v1 s1 ⟨Φ1, g1, H1, i1⟩ => ?_) fun zz1 zz2 f => f
  have e1 : v1 = .type "str" := i1
  subst e1
  refine Calls.spliced_cons (Tuple_ (Calls.spliced_cons (biGo H1 (by decide +kernel) (by rfl) ?_ hk2)))
  refine Calls.spliced_cons (biGo H1 (by decide +kernel) (by rfl) ?_ hk3)
  refine Calls.spliced_nil (wpAny_newTuple ?_ (by decide))
  refine Calls.spliced_nil ?_
  exact issub_tup rfl (Heap.get?_push_size _ rfl) ⟨Φ1, g1, H1.garbage _ _, .bool _⟩

theorem EvJ.isBytes (he : EvJ C ρ e (.dat (DS l))) (hk : C.env.kindOf "isinstance" = some .globalImplicit := by rfl) (hk2 : C.env.kindOf "bytes" = some .globalImplicit := by rfl) (hs : starEach [e, .Name "bytes" n1] C.env = [(false, eval e C.env), (false, eval (.Name "bytes" n1) C.env)] := by rfl) :
    EvJ C ρ (.Call (.Name "isinstance" np) [e, .Name "bytes" n1] [] cp) (.dat (.bool false)) := fun X Φ f s H => by
  refine Call_Name2 (biGo H (by decide +kernel) (by rfl) ?_ hk) hs
  refine Calls.callWith_builtin rfl (Calls.evalArgs_plain (Calls.spliced_cons ?_))
  refine wpAny_mono (he X Φ f s H) (fun v1 s1 ⟨Φ1, g1, H1, i1⟩ => ?_) fun zz1 zz2 f => f
  cases i1
  refine Calls.spliced_cons (biGo H1 (by decide +kernel) (by rfl) ?_ hk2)
  refine Calls.spliced_nil ?_
  exact PySem.IsiPair.str_bytes ⟨Φ1, g1, H1.toks _, .bool _⟩
end

/-! the first defs -/
noncomputable def bodyOf (nm : Str) : List Stmt := ((defOf nm P.main.body).map (·.2.1)).getD []
noncomputable def scopeOf (nm : Str) : Scope := ((defOf nm P.main.body).map (·.2.2)).getD default
noncomputable def parsOf (nm : Str) : Arguments := ((defOf nm P.main.body).map (·.1)).getD ⟨[], [], none, [], [], none, []⟩

theorem j_fspath (l : List Nat) : FnJ "fspath" 1 [DS l] (.dat (DS l)) := by
  refine FnJ.intro (ns := ["path"]) (pr := parsOf "fspath") (bd := bodyOf "fspath") (sc := scopeOf "fspath") (by rfl) (by decide +kernel) ?_ rfl (by decide +kernel) (by decide +kernel) (by decide +kernel) ?_
  · exact fun doc pm an cd ct => len1 fun a => rfl
  · intro p hh
    refine ExJ.cons (SxJ.assign (EvJ.typeS (EvJ.name rfl)) (.loc rfl) ?_)
    refine ExJ.cons (SxJ.ifs (TvJ.val (EvJ.issub rfl) tr_bool) (fun zz1 => ?_) fun h => by cases h)
    exact ExJ.cons (SxJ.ret (EvJ.name rfl) rfl)
end Mine
end
section
open PySem PySem.W PySem.Calls PyProof.Rows PyProof.V
namespace Mine

noncomputable def namesOf : List Expr → Option (List Str)
  | [] => some []
  | .Name x _ :: r => (namesOf r).map (x :: ·)
  | _ :: _ => none
noncomputable def pushAll : List Str → List Dat → Loc → Loc
  | n :: ns, d :: ds, ρ => pushAll ns ds ((n, .dat d) :: ρ)
  | _, _, ρ => ρ

section
variable {C : Cx} {X Φ Φ' : Led} {ρ ρ' : Loc} {m : Str → Option Value} {ow : List OwnE} {s s' : Shared} {x y : Str} {pos sp ap cp tp px py : Pos} {av : AV} {v : Value} {k : Nat} {ds : List Dat} {e o : Expr} {l p : List Nat} {Q : Out → Prop} {a b c : Dat} {op : Operator}

theorem SxJ.aug (hx : ρ.lookup x = some (.dat a)) (hk : Kept C x) (he : EvJ C ρ e (.dat b)) (h : Op2 (inplaceOp op) a b c) (hq : Q (.next ((x, .dat c) :: ρ)))
    (hc : (x == ("__classdict__" : Str)) = false := by decide) : SxJ C ρ (.AugAssign (.Name x px) op e pos) Q := fun X Φ f s H => by
  refine wpAny_AugAssign_Name ?_
  obtain ⟨v, S, hr⟩ := H.loc x _ hx
  refine AtM.loadN H S ?_ hc
  refine ff (wpAny_mono (he X Φ f s H) (fun v1 s1 ⟨Φ1, g1, H1, i1⟩ => ?_) fun zz1 zz2 f => f)
  refine ff (wpAny_mono (h C X Φ1 ρ f s1 v v1 H1 (DatIn.mono g1 hr) i1) (fun v2 s2 ⟨Φ2, g2, H2, i2⟩ => ?_) fun zz1 zz2 f => f)
  exact AtM.put H2 hk (av := .dat c) i2 fun s3 H3 => ⟨Φ2, .next _, fun p hp => g2 p (g1 p hp), hq, H3⟩

inductive ArgsL (C : Cx) (ρ : Loc) : List Expr → List Dat → Prop
  | nil : ArgsL C ρ [] []
  | cons {e : Expr} {es : List Expr} {d : Dat} {ds : List Dat} (h : EvJ C ρ e (.dat d)) (r : ArgsL C ρ es ds) : ArgsL C ρ (e :: es) (d :: ds)
theorem ArgsL.go {es : List Expr} {ds : List Dat} (h : ArgsL C ρ es ds) : ArgsJ C ρ (es.map fun e => (false, eval e C.env)) ds := by
  induction h with
  | nil => exact .nil
  | cons h r ih => exact .cons h ih
theorem EvJ.tupE {es : List Expr} (h : ArgsL C ρ es ds) (ht : backTo pos (starEach es C.env) = es.map fun e => (false, eval e C.env) := by rfl) (hz : ds.length ≤ 1000 := by simp) : EvJ C ρ (.Tuple es k pos) (.dat (.tuple ds)) := fun X Φ f s H => by
  refine Tuple_ ?_
  rw [ht]
  refine wpAny_mono (h.go X Φ f s H) (fun vs s1 ⟨Φ1, g1, H1, i1⟩ => ?_) fun zz1 zz2 f => f
  exact wpAny_newTuple ⟨_, fun p hp => .tail _ (g1 p hp), H1.push { cls := .type "tuple", data := .seq vs.toArray } s1.toks rfl, .tuple (.head _) (i1.mono fun p hp => .tail _ hp)⟩ (by rw [i1.length, sizeLine_eq]; lia)
theorem EvJ.listE {es : List Expr} (h : ArgsL C ρ es ds) (ht : backTo pos (starEach es C.env) = es.map fun e => (false, eval e C.env) := by rfl) (hz : ds.length ≤ 1000 := by simp) : EvJ C ρ (.List es pos) (.dat (.list ds)) := fun X Φ f s H => by
  refine List_ ?_
  rw [ht]
  refine wpAny_mono (h.go X Φ f s H) (fun vs s1 ⟨Φ1, g1, H1, i1⟩ => ?_) fun zz1 zz2 f => f
  exact wpAny_newList ⟨_, fun p hp => .tail _ (g1 p hp), H1.push { cls := .type "list", data := .seq vs.toArray } s1.toks rfl, .list (.head _) (i1.mono fun p hp => .tail _ hp)⟩ (by rw [i1.length, sizeLine_eq]; lia)
theorem EvJ.callL {nm : Str} {lv : Nat} {args : List Expr} {r : AV} {np : Pos} (hf : FnJ nm lv ds r) (hh : C.A.handled = none) (ha : ArgsL C ρ args ds) (hl : lv ≤ C.lv := by exact Nat.le_of_ble_eq_true rfl) (hnm : nm ∈ fnNames := by decide +kernel)
    (hk : C.env.kindOf nm = some .globalImplicit := by rfl) (ht : backTo cp (starEach args C.env) = args.map fun e => (false, eval e C.env) := by rfl) (hd : (nm == ("__debug__" : Str)) = false := by decide) (hne : args ≠ [] := by simp) :
    EvJ C ρ (.Call (.Name nm np) args [] cp) r := by
  cases ha with
  | nil => exact absurd rfl hne
  | cons h1 h2 => exact EvJ.call hf hnm hh (.cons h1 h2.go) hl hk ht hd
theorem datAll_rev {Φ : Led} : ∀ {vs : List Value} {ds : List Dat}, DatAll Φ vs ds → DatAll Φ vs.reverse ds.reverse
  | _, _, .nil => .nil
  | _, _, .cons h r => by
    rw [List.reverse_cons, List.reverse_cons]
    exact (datAll_rev r).append (.one h)

theorem inOrder {R : Unit → Shared → Prop} {E : Value → Shared → Prop} : ∀ {ns : List Str} {vs : List Value} {ds : List Dat} {ρ : Loc} {s : Shared}, ns.length = ds.length → DatAll Φ vs ds → (∀ n ∈ ns, Kept C n) → At C X Φ ρ s →
    (∀ s', At C X Φ (pushAll ns ds ρ) s' → R () s') → wpAny (model P C.w) C.A (assignInOrder (ns.map fun n => bindName C.env n) vs) R E s
  | [], vs, ds, _, _, hl, hD, hk, H, hr => by
    cases hD with
    | nil => exact assignInOrder_nil (hr _ H)
    | cons _ _ => simp at hl
  | n :: ns, vs, ds, ρ, s, hl, hD, hk, ⟨f, H⟩, hr => by
    cases hD with
    | nil => simp at hl
    | cons h r =>
      refine assignInOrder_cons (bindName_ (AtM.put H (hk n (.head _)) (av := .dat _) h fun s' H' => ?_))
      exact inOrder (by simpa using hl) r (fun n hn => hk n (.tail _ hn)) H' hr
theorem namesOf_cons {e : Expr} {r : List Expr} {ns : List Str} (h : namesOf (e :: r) = some ns) : ∃ x p ns', e = .Name x p ∧ namesOf r = some ns' ∧ ns = x :: ns' := by
  unfold namesOf at h
  split at h
  · rename_i e1; cases e1
  · rename_i x p r' e1
    cases e1
    obtain ⟨ns', h1, h2⟩ := Option.map_eq_some_iff.mp h
    exact ⟨x, p, ns', rfl, h1, h2.symm⟩
  · cases h
theorem inOrderE {R : Unit → Shared → Prop} {E : Value → Shared → Prop} {es : List Expr} : ∀ {ns : List Str} {vs : List Value} {ds : List Dat} {ρ : Loc} {s : Shared}, namesOf es = some ns → ns.length = ds.length → DatAll Φ vs ds → (∀ n ∈ ns, Kept C n) → At C X Φ ρ s →
    (∀ s', At C X Φ (pushAll ns ds ρ) s' → R () s') → wpAny (model P C.w) C.A (assignInOrder ((assignEach es C.env).map (·.2)) vs) R E s := by
  induction es with
  | nil =>
    intro ns vs ds ρ s hn hl hD hk H hr
    cases hn
    cases hD with
    | nil => exact assignInOrder_nil (hr _ H)
    | cons _ _ => simp at hl
  | cons e r ih =>
    intro ns vs ds ρ s hn hl hD hk ⟨f, H⟩ hr
    obtain ⟨x, p, ns', rfl, h1, rfl⟩ := namesOf_cons hn
    cases hD with
    | nil => simp at hl
    | cons h r' =>
      refine assignInOrder_cons (t := assign (.Name x p) C.env) (ts := (assignEach r C.env).map (·.2)) (assign_Name (AtM.put H (hk x (.head _)) (av := .dat _) h fun s' H' => ?_))
      exact ih h1 (by simpa using hl) r' (fun n hn => hk n (.tail _ hn)) H' hr
theorem assignEach_names {env : Env} {es : List Expr} : ∀ {ns : List Str}, namesOf es = some ns → (assignEach es env).length = ns.length ∧ (assignEach es env).findIdx? (·.1) = none := by
  induction es with
  | nil => intro ns h; cases h; exact ⟨rfl, rfl⟩
  | cons e r ih =>
    intro ns h
    obtain ⟨x, p, ns', rfl, h1, rfl⟩ := namesOf_cons h
    obtain ⟨a1, a2⟩ := ih h1
    have e : assignEach (.Name x p :: r) env = (false, assign (.Name x p) env) :: assignEach r env := rfl
    exact ⟨by rw [e, List.length_cons, List.length_cons, a1], by rw [e, List.findIdx?_cons]; simp [a2]⟩

theorem SxJ.unpack {es : List Expr} {ns : List Str} (h : EvJ C ρ e (.dat (.tuple ds))) (hh : C.A.handled = none) (hn : namesOf es = some ns) (hl : ns.length = ds.length) (hk : ∀ n ∈ ns, Kept C n) (hq : Q (.next (pushAll ns ds ρ)))
    (hs : swapsWithSole [.Tuple es k tp] e pos.line C.env = pure false := by rfl)
    (hw : swappedStores [.Tuple es k tp] e C.env = pure none := by rfl) : SxJ C ρ (.Assign [.Tuple es k tp] e pos) Q := fun X Φ f s H => by
  refine Assign_Tuple (ff (wpAny_mono (h X Φ f s H) (fun v1 s1 ⟨Φ1, g1, H1, i1⟩ => ?_) fun zz1 zz2 f => f)) hs hw
  obtain ⟨a, vs, n, rfl, hm, hD⟩ := DatIn.tupInv i1
  have hlen := hD.length
  obtain ⟨a1, a2⟩ := assignEach_names (env := C.env) hn
  refine assign_Tuple_tuple hh ⟨_, H1.led _ hm, rfl, _, rfl⟩ (by rw [a1, List.size_toArray, hl, hlen]) a2 fun h' he => ?_
  exact inOrderE (ds := ds) hn hl hD hk (AtM.keeps H1 (s' := { s1 with heap := h' }) (fun b o q => he b o (Nat.ne_of_lt (Heap.lt_size q)) q) rfl rfl).at fun s' H' => ⟨Φ1, .next _, g1, hq, H'⟩
theorem SxJ.unpackSw {es : List Expr} {ns : List Str} (h : EvJ C ρ e (.dat (.tuple ds))) (hh : C.A.handled = none) (hw : swappedStores [.Tuple es k tp] e C.env = pure (some ns)) (hl : ns.length = ds.length) (hk : ∀ n ∈ ns, Kept C n) (hq : Q (.next (pushAll ns.reverse ds.reverse ρ)))
    (hs : swapsWithSole [.Tuple es k tp] e pos.line C.env = pure false := by rfl) : SxJ C ρ (.Assign [.Tuple es k tp] e pos) Q := fun X Φ f s H => by
  refine Assign_Tuple_swapped (ff (wpAny_mono (h X Φ f s H) (fun v1 s1 ⟨Φ1, g1, H1, i1⟩ => ?_) fun zz1 zz2 f => f)) hs hw
  obtain ⟨a, vs, n, rfl, hm, hD⟩ := DatIn.tupInv i1
  have hlen := hD.length
  rw [show ns.length = vs.toArray.size from by rw [List.size_toArray, hl, hlen]]
  refine unpackItems_tuple hh ⟨_, H1.led _ hm, rfl, _, rfl⟩ fun h' he => ?_
  exact inOrder (ds := ds.reverse) (by simpa using hl) (datAll_rev hD) (fun n hn => hk n (List.mem_reverse.mp hn)) (AtM.keeps H1 (s' := { s1 with heap := h' }) (fun b o q => he b o (Nat.ne_of_lt (Heap.lt_size q)) q) rfl rfl).at fun s' H' => ⟨Φ1, .next _, g1, hq, H'⟩
theorem SxJ.assign2 (h : EvJ C ρ e (.dat a)) (hk : Kept C x) (hk2 : Kept C y) (hq : Q (.next ((y, .dat a) :: (x, .dat a) :: ρ)))
    (hw : swappedStores [.Name x px, .Name y py] e C.env = pure none := by rfl) : SxJ C ρ (.Assign [.Name x px, .Name y py] e pos) Q := fun X Φ f s H => by
  refine wpAny_Assign_two (ff (wpAny_mono (h X Φ f s H) (fun v1 s1 ⟨Φ1, g1, H1, i1⟩ => ?_) fun zz1 zz2 f => f)) rfl hw
  refine assign_Name (AtM.put H1 hk (av := .dat a) i1 fun s' ⟨f', H'⟩ => ?_)
  exact assign_Name (AtM.put H' hk2 (av := .dat a) i1 fun s2 H2 => ⟨Φ1, .next _, g1, hq, H2⟩)
end
end Mine
end
section
open PySem PySem.W PySem.Calls PyProof.Rows PyProof.V
namespace Mine

noncomputable def Bi (fv : Value) (as : List Dat) (r : Dat) : Prop :=
  ∀ C X Φ ρ f s vs, C.A.handled = none → AtF C X Φ ρ f s → DatAll Φ vs as → wpAny (model P C.w) C.A (PySem.call fv vs) (Got C X Φ ρ f (.dat r)) (fun zz1 zz2 => False) s
noncomputable def biLike : Value → Bool
  | .builtin _ => true
  | .type _ => true
  | _ => false

section
variable {C : Cx} {X Φ Φ' : Led} {ρ ρ' : Loc} {m : Str → Option Value} {ow : List OwnE} {s s' : Shared} {x y : Str} {pos sp ap cp tp px py np : Pos} {av : AV} {v : Value} {k : Nat} {ds : List Dat} {e o : Expr} {l p : List Nat} {r : Dat}

theorem plain_args {env : Env} {args : List Expr} : ((args.map fun e => (false, eval e env)) : List (Bool × Sem Value)).any (·.1) = false := by
  induction args with
  | nil => rfl
  | cons a l ih => simp
theorem EvJ.callB {nm : Str} {fv : Value} {args : List Expr} (hb : Bi fv ds r) (hh : C.A.handled = none) (ha : ArgsL C ρ args ds) (hv : bootBuiltins nm = some fv := by rfl) (hl : biLike fv = true := by rfl) (hnm : nm ∈ biNames := by decide +kernel)
    (hk : C.env.kindOf nm = some .globalImplicit := by rfl) (ht : backTo cp (starEach args C.env) = args.map fun e => (false, eval e C.env) := by rfl) (hd : (nm == ("__debug__" : Str)) = false := by decide) (hne : args ≠ [] := by simp) :
    EvJ C ρ (.Call (.Name nm np) args [] cp) (.dat r) := fun X Φ f s H => by
  refine Call_Name ht (biGo H hnm hv ?_ hk hd)
  have go : wpAny (model P C.w) C.A (spliced (args.map fun e => (false, eval e C.env))) (fun vs s1 => wpAny (model P C.w) C.A (PySem.call fv vs) (Got C X Φ ρ f (.dat r)) (fun zz1 zz2 => False) s1) (fun zz1 zz2 => False) s :=
    wpAny_mono (ha.go X Φ f s H) (fun vs s1 ⟨Φ1, g1, H1, i1⟩ => wpAny_mono (hb C X Φ1 ρ f s1 vs hh H1 i1) (fun v s2 ⟨Φ2, g2, H2, i2⟩ => ⟨Φ2, fun p hp => g2 p (g1 p hp), H2, i2⟩) fun zz1 zz2 f => f) fun zz1 zz2 f => f
  obtain ⟨e, es, rfl⟩ := List.exists_cons_of_ne_nil hne
  cases fv <;> first | cases hl | skip
  · exact PyProof.Rows.callWith_type plain_args (Calls.evalArgs_plain go)
  · exact Calls.callWith_builtin plain_args (Calls.evalArgs_plain go)

theorem datAll1 {Φ : Led} {vs : List Value} {d : Dat} (h : DatAll Φ vs [d]) : ∃ v, vs = [v] ∧ DatIn Φ v d := by
  cases h with | cons h r => cases r; exact ⟨_, rfl, h⟩
theorem datAll2 {Φ : Led} {vs : List Value} {d e : Dat} (h : DatAll Φ vs [d, e]) : ∃ v u, vs = [v, u] ∧ DatIn Φ v d ∧ DatIn Φ u e := by
  cases h with | cons h r => obtain ⟨u, rfl, h2⟩ := datAll1 r; exact ⟨_, _, rfl, h, h2⟩

variable {a b : Int} {t : Bool}
theorem bi_lenS (hz : l.length ≤ 1000000) : Bi (.builtin "len") [DS l] (.int l.length) := fun C X Φ ρ f s vs hh H h => by
  obtain ⟨v, rfl, h0⟩ := datAll1 h
  cases h0
  exact P.len_str (by rw [T_len]; lia) (by rw [T_len]; exact ⟨Φ, fun zz1 h => h, H.toks _, .int _ _⟩)
theorem bi_lenL (hz : ds.length ≤ 1000000) : Bi (.builtin "len") [.list ds] (.int ds.length) := fun C X Φ ρ f s vs hh H h => by
  obtain ⟨v, rfl, h0⟩ := datAll1 h
  obtain ⟨a, vs, n, rfl, hm, hD⟩ := DatIn.listInv h0
  have hlen := hD.length
  exact call_len_list ⟨_, H.led _ hm, rfl, _, rfl⟩ (by rw [List.size_toArray, hlen]; lia) (by rw [List.size_toArray, hlen]; exact ⟨Φ, fun zz1 h => h, H.toks _, .int _ _⟩)
theorem bi_abs : Bi (.builtin "abs") [.int a] (.int (if a < 0 then -a else a)) := fun C X Φ ρ f s vs hh H h => by
  obtain ⟨v, rfl, h0⟩ := datAll1 h
  cases h0
  exact call_abs_int fun u tk => ⟨Φ, fun zz1 h => h, H.toks _, .int _ _⟩
theorem bi_int : Bi (.type "int") [.int a] (.int a) := fun C X Φ ρ f s vs hh H h => by
  obtain ⟨v, rfl, h0⟩ := datAll1 h
  cases h0
  exact call_int_int ⟨Φ, fun zz1 h => h, H, .int _ _⟩
theorem bi_divmod (hb : b ≠ 0) (hp : Builtin.divisionGoesByPylong a b = false) : Bi (.builtin "divmod") [.int a, .int b] (.tuple [.int (a.fdiv b), .int (a.fmod b)]) := fun C X Φ ρ f s vs hh H h => by
  obtain ⟨v, u, rfl, h0, h2⟩ := datAll2 h
  cases h0; cases h2
  refine divmod_int hb ?_ (.inl hp)
  exact ⟨_, fun p hp => .tail _ hp, H.push { cls := .type "tuple", data := .seq #[.int (a.fdiv b) s.toks, .int (a.fmod b) (s.toks + 1)] } _ rfl, .tuple (vs := [.int (a.fdiv b) s.toks, .int (a.fmod b) (s.toks + 1)]) (.head _) (.cons (.int _ _) (.one (.int _ _)))⟩
theorem bi_max2 : Bi (.builtin "max") [.int a, .int b] (.int (if b > a then b else a)) := fun C X Φ ρ f s vs hh H h => by
  obtain ⟨v, u, rfl, h0, h2⟩ := datAll2 h
  cases h0; cases h2
  refine max_two_ints hh fun h' tk k => ⟨Φ, fun zz1 h => h, H.keeps (s' := { s with heap := h', toks := tk }) k rfl rfl, ?_⟩
  split <;> exact .int _ _
theorem bi_min2 : Bi (.builtin "min") [.int a, .int b] (.int (if b < a then b else a)) := fun C X Φ ρ f s vs hh H h => by
  obtain ⟨v, u, rfl, h0, h2⟩ := datAll2 h
  cases h0; cases h2
  refine min_two_ints hh fun h' tk k => ⟨Φ, fun zz1 h => h, H.keeps (s' := { s with heap := h', toks := tk }) k rfl rfl, ?_⟩
  split <;> exact .int _ _

/-! operations -/
theorem op_mulS {c n : Nat} (hn : n ≤ 1000000) : Op2 (binaryOp .Mult) (DS [c]) (.int n) (DS (List.replicate n c)) := fun C X Φ ρ f s v1 v2 H h1 h2 => by
  cases h1; cases h2
  have e : Txt.mul (T [c]) (n : Int) = T (List.replicate n c) := by
    refine Str.ext' (Array.toList_inj.mp ?_)
    exact (mul_one_list c n).trans (by simp)
  refine SB.mul ⟨?_, fun h1 zz1 => ?_, fun zz1 zz2 => ?_⟩ fun t' k => ⟨Φ, fun zz1 h => h, H.toks _, by rw [e]; exact .str _ _⟩
  · simp; lia
  · rw [T_len]
    have h3 : (1000000 : Int) ≤ (2 ^ 63 - 1) / (n : Int) := (Int.le_ediv_iff_mul_le (by lia)).mpr (by lia)
    simp only [List.length_singleton]
    lia
  · rw [T_len]
    simp [Builtin.Str.tooLong, sizeLine_eq]
    lia
theorem datAll_rep {Φ : Led} {v : Value} {d : Dat} (h : DatIn Φ v d) : ∀ n, DatAll Φ (List.replicate n v) (List.replicate n d)
  | 0 => .nil
  | n + 1 => .cons h (datAll_rep h n)
theorem mulList {prog : Program} {w : World} {A : Around} {E : Value → Shared → Prop} {l : Addr} {items : Array Value} {k : Nat} {x : Int} {u : Tok} {Q : Value → Shared → Prop}
    (hl : s.heap.get? l = some { cls := .type "list", dict := none, data := .seq items k, slots := #[] })
    (hlo : -(2 ^ 63 : Int) ≤ x) (hhi : x < 2 ^ 63) (hsz : items.size * x.toNat ≤ 2 ^ 24)
    (h : Q (.ref s.heap.objs.size) { s with heap := s.heap.push { cls := .type "list", data := .seq (List.foldl (fun x1 x2 => x1 ++ x2) #[] (List.replicate (if items.isEmpty = true then 0 else x.toNat) items)) } }) :
    wpAny (model prog w) A (binaryOp .Mult (.ref l) (.int x u)) Q E s :=
  wpAny_binaryOp_repeat_ref (T := "list") (U := "int") (by decide) ⟨_, hl, rfl⟩ (fun s' => typeIs_int s' x u) noFill_list_mul F.fills_int_mul F.slot_int_rmul repeat_list F.slot_int_index.lookup
    (call_meets F.slot_int_rmul (typeIs_int s x u) F.entry_int_rmul (F.args_int_rmul_2 _ _) (int___rmul___int_list x u l items k)
      ⟨hl, rfl, ⟨_, hl, rfl⟩, call_meets F.slot_list_mul ⟨_, hl, rfl⟩ F.entry_list_mul (F.args_list_mul_2 _ _)
        (AutoListH.list___mul___list_int_3 l items k x u (by simp [Builtin.List.listFitsIndex]; lia) (by lia) (by simp [Builtin.List.listTooLong, sizeLine]; lia))
        ⟨hl, h⟩⟩)
theorem op_mulL {d : Dat} {n : Nat} (hn : n ≤ 1000000) : Op2 (binaryOp .Mult) (.list [d]) (.int n) (.list (List.replicate n d)) := fun C X Φ ρ f s v1 v2 H h1 h2 => by
  obtain ⟨l, vs, k, rfl, hm, hD⟩ := DatIn.listInv h1
  obtain ⟨v, rfl, hv⟩ := datAll1 hD
  cases h2
  rename_i u
  refine mulList (H.led _ hm) (by lia) (by lia) (by simp; lia) ?_
  have e : (List.foldl (fun x1 x2 => x1 ++ x2) #[] (List.replicate (if ([v].toArray : Array Value).isEmpty = true then 0 else (n : Int).toNat) [v].toArray)) = (List.replicate n v).toArray := by
    simp only [Int.toNat_natCast, List.isEmpty_toArray, List.isEmpty_cons, Bool.false_eq_true, if_false]
    rw [listMul_foldl]
    simp
  rw [e]
  refine ⟨_, fun p hp => .tail _ hp, H.push (listOf (List.replicate n v).toArray 0) s.toks rfl, .list (.head _) (datAll_rep (DatIn.mono (fun p hp => .tail _ hp) hv) n)⟩
theorem op_addL {es : List Dat} (hz : ds.length + es.length ≤ 1000000) : Op2 (binaryOp .Add) (.list ds) (.list es) (.list (ds ++ es)) := fun C X Φ ρ f s v1 v2 H h1 h2 => by
  obtain ⟨a, vs, n, rfl, hm, hD⟩ := DatIn.listInv h1
  obtain ⟨b, us, n2, rfl, hm2, hE⟩ := DatIn.listInv h2
  have l1 := hD.length
  have l2 := hE.length
  refine P.add_list (H.led _ hm) (H.led _ hm2) ?_ (by rw [List.size_toArray, List.size_toArray, l1, l2, sizeLine_eq]; lia)
  exact ⟨_, fun p hp => .tail _ hp, H.push (listOf (vs ++ us).toArray 0) s.toks rfl |> fun h => by simpa using h, .list (.head _) ((hD.append hE).mono fun p hp => .tail _ hp)⟩
theorem op_pow {n : Nat} (hn : n ≤ 1000000) (ha : a.natAbs < 2 ^ 64) : Op2 (binaryOp .Pow) (.int a) (.int n) (.int (a ^ n)) := fun C X Φ ρ f s v1 v2 H h1 h2 => by
  cases h1; cases h2
  exact pow_int_small (by lia) (by lia) ha ⟨Φ, fun zz1 h => h, H.toks _, .int _ _⟩
end
end Mine
end
section
open PySem PySem.W PySem.Calls PyProof.Rows PyProof.V
namespace Mine
open Builtin
theorem entry_ascii {c : UInt8} {cs : List UInt8} {t u : Tok} : «bytes.decode» ⟨[.bytes (c :: cs).toArray t, .str (PySem.Str.ofString "ascii") u], []⟩ = (mkStr (PySem.Str.ofString "utf-8") >>= fun zz1 => mkStr (PySem.Str.ofString "ascii") >>= fun e => mkStr (PySem.Str.ofString "bytes.decode") >>= fun d =>
    PySem.call (.builtin "_codecs.decode.text") [.bytes (c :: cs).toArray t, e, .none, d] >>= fun v => ret v) := by kernel_rfl
theorem road_ascii {id : String} {b : Array UInt8} : _codecs.decodeRoad id b (PySem.Str.ofString "ascii") none [] = (_codecs.runDecoder id _codecs.asciiDecoder none true b 0 [] >>= fun r => mkStr ⟨r.1⟩) := by kernel_rfl
theorem forIn_steps {σ : Type} (g : Nat → σ → Sem (ForInStep σ)) (st : Nat → σ) (n : Nat) (h : ∀ k, k < n → ∀ x, g x (st k) = pure (.yield (st (k + 1)))) : ∀ m k a, k + m = n → forIn (List.range' a m) (st k) g = pure (st n)
  | 0, k, a, e => by
    have : k = n := by lia
    subst this
    rfl
  | m + 1, k, a, e => by
    rw [List.range'_succ, List.forIn_cons, h k (by lia) a, pure_bind]
    exact forIn_steps g st n h m (k + 1) (a + 1) (by lia)
theorem run_ascii {id : String} {l : List UInt8} (hb : ∀ x ∈ l, x.toNat < 128) (hz : l.length ≤ 1000) : _codecs.runDecoder id _codecs.asciiDecoder none true l.toArray 0 [] = pure ((l.map UInt8.toNat).toArray, l.length) := by
  unfold _codecs.runDecoder
  simp only [Std.Legacy.Range.forIn_eq_forIn_range']
  rw [show ((0 : Nat), (#[] : Array Nat), ({ } : _codecs.Faults)) = (fun k : Nat => (k, ((l.map UInt8.toNat).take k).toArray, ({ } : _codecs.Faults))) 0 from by simp]
  rw [forIn_steps _ (fun k : Nat => (k, ((l.map UInt8.toNat).take k).toArray, ({ } : _codecs.Faults))) l.length ?_ _ 0 0 (by simp [Std.Legacy.Range.size])]
  · rw [pure_bind]
    simp only [List.take_of_length_le (by simp : (l.map UInt8.toNat).length ≤ l.length)]
  · intro k hk x
    have h1 : ¬ ((List.take k (List.map UInt8.toNat l)).toArray.size > sizeLine) := by
      rw [List.size_toArray, List.length_take, sizeLine_eq]; simp; lia
    have h2 : ¬ k ≥ l.toArray.size := by simp; lia
    have h3 : (l.toArray.getD k 0).toNat = l[k].toNat := by simp [hk]
    have h4 : _codecs.asciiDecoder.find true l.toArray k = _codecs.Found.char l[k].toNat (k + 1) := by
      show (if (l.toArray.getD k 0).toNat < 128 then _ else _) = _
      rw [h3, if_pos (hb _ (List.getElem_mem _))]
    dsimp only
    rw [if_neg h1, if_neg h2, h4]
    unfold _codecs.Found.char
    dsimp only
    congr 3
    rw [List.take_succ_eq_append_getElem (by simpa using hk)]
    simp

theorem args_dec2 (a b : Value) : argsOk "bytes.decode" ⟨[a, b], []⟩ := by unfold argsOk; kernel_rfl
theorem dec_ascii {prog : Program} {w : World} {A : Around} {E : Value → Shared → Prop} {s : Shared} {c : UInt8} {cs : List UInt8} {t u : Tok} {Q : Value → Shared → Prop} (hb : ∀ x ∈ c :: cs, x.toNat < 128) (hz : (c :: cs).length ≤ 1000)
    (h : ∀ t' k, Q (.str (T ((c :: cs).map UInt8.toNat)) t') { s with toks := k }) : wpAny (model prog w) A (PySem.call (.builtin "bytes.decode") [.bytes (c :: cs).toArray t, .str (PySem.Str.ofString "ascii") u]) Q E s := by
  have txt : ∀ (t1 t2 : Tok) (d : PySem.Str), Meets («_codecs.decode.text» ⟨[.bytes (c :: cs).toArray t, .str (PySem.Str.ofString "ascii") t1, .none, .str d t2], []⟩) (fun zz1 R s => R (.ok (.ret (.str (T ((c :: cs).map UInt8.toNat)) s.toks))) { s with toks := s.toks + 1 }) := fun t1 t2 d => by
    refine .of_wp fun prog w A R s h => ?_
    show wpAny _ _ (Bytes.bytesLike _ (.bytes (c :: cs).toArray t) >>= fun r => _) _ _ s
    refine wpAny_bind (wpAny_of_eq KBd.like_eq ?_)
    refine wpAny_bind (wpAny_of_eq KBd.held_eq ?_)
    show wpAny _ _ (_codecs.decodeRoad _ (c :: cs).toArray (PySem.Str.ofString "ascii") none [] >>= fun v => _) _ _ s
    rw [road_ascii, run_ascii hb hz]
    refine wpAny_bind (wpAny_bind (wpAny_pure ?_))
    exact wpAny_mkStr (wpAny_pure ⟨_, rfl, h⟩) (by simp [PySem.Str.length, sizeLine_eq] at hz ⊢; lia)
  refine call_meets FB.slot_bytes_decode (typeIs_bytes _ _ _) FB.entry_bytes_decode (args_dec2 _ _) (S := fun zz1 R s => ∀ t' k, R (.ok (.ret (.str (T ((c :: cs).map UInt8.toNat)) t'))) { s with toks := k }) (.of_wp fun prog w A R s h => ?_) h
  rw [entry_ascii]
  refine wpAny_bind (wpAny_mkStr ?_ (by decide))
  refine wpAny_bind (wpAny_mkStr ?_ (by decide))
  refine wpAny_bind (wpAny_mkStr ?_ (by decide))
  exact wpAny_bind (call_function_meets KBd.kind_text KBd.plain_text KBd.entry_text (KBd.args_text _ _ _ _) (txt _ _ _) (wpAny_pure ⟨_, rfl, h _ _⟩))

noncomputable abbrev DB (l : List UInt8) : Dat := .bytes l.toArray
section
variable {C : Cx} {X Φ Φ' : Led} {ρ ρ' : Loc} {s s' : Shared} {x y : Str} {pos sp ap cp tp px py np : Pos} {e o : Expr} {l p : List UInt8} {lo hi : Option Int} {el eh : Option Expr}
theorem EvJ.decode {k : Nat} {p1 : Pos} (ho : EvJ C ρ o (.dat (DB l))) (hb : ∀ x ∈ l, x.toNat < 128) (hne : l ≠ []) (hz : l.length ≤ 1000)
    (hab : attributeBase o "decode" C.env (eval o C.env) = eval o C.env := by rfl) (hl : (ap.endLine == cp.line) = true := by rfl) :
    EvJ C ρ (.Call (.Attribute o "decode" ap) [.Constant (.str "ascii") k p1] [] cp) (.dat (DS (l.map UInt8.toNat))) := fun X Φ f s H => by
  refine Call_method1 hab rfl hl (wpAny_mono (ho X Φ f s H) (fun v1 s1 ⟨Φ1, g1, H1, i1⟩ => ?_) fun zz1 zz2 f => f)
  cases i1
  refine ⟨"bytes", _, FB.plainAttrs_bytes, FB.slot_bytes_decode, FB.type_bytes_decode, typeIs_bytes _ _ _, (fun zz1 e => nomatch e), ?_⟩
  refine Calls.callWith_builtin rfl (Calls.evalArgs_plain (Calls.spliced_cons ?_))
  refine Constant_str (Calls.spliced_nil ?_)
  obtain ⟨c, cs, rfl⟩ := List.exists_cons_of_ne_nil hne
  exact dec_ascii hb hz fun t' k => ⟨Φ1, g1, H1.toks _, .str _ _⟩
theorem op_addBy {a b : List UInt8} (hz : a.length + b.length ≤ 1000000) : Op2 (binaryOp .Add) (DB a) (DB b) (DB (a ++ b)) := fun C X Φ ρ f s v1 v2 H h1 h2 => by
  cases h1; cases h2
  refine KBy.add_bytes (by simp; lia) fun t' k => ⟨Φ, fun zz1 h => h, H.toks _, ?_⟩
  have : DB (a ++ b) = .bytes (a.toArray ++ b.toArray) := by simp
  rw [this]
  exact .bytes _ _
theorem sl_bytes (l : List UInt8) (lo hi : Option Int) : KBy.picked l.toArray lo hi = (sl lo hi l).toArray := by
  have hlen : l.toArray.size = l.length := List.size_toArray ..
  unfold KBy.picked Bytes.sliced sl
  rw [hlen, kms_bounds]
  simp only [sliceRange_one, pick_run]
theorem EvJ.sliceB (ho : EvJ C ρ o (.dat (DB l))) (hl : PartJ C ρ el lo) (hh : PartJ C ρ eh hi) (hz : l.length ≤ 1000000) (hss : ∀ b t a, subscripted (.Slice el eh none sp) false (.bytes b t) (.ref a) = operate [.ref a, .bytes b t] (getItem (.bytes b t) (.ref a)) := by intro a b u; with_unfolding_all rfl)
   (ht : ∀ b t r, letTemporaryGo o (.bytes b t) r = pure () := by intro a b u; with_unfolding_all rfl) : EvJ C ρ (.Subscript o (.Slice el eh none sp) pos) (.dat (DB (sl lo hi l))) := fun X Φ f s H => by
  refine sliceGo ho hl hh H fun Φ' s' v vl vu g H' i p1 p2 => ?_
  cases i
  rename_i t
  refine tail_of_ItemOn ⟨"bytes", _, FB.slot_bytes_getitem.lookup, typeIs_bytes _ _ _, getItem_meets (typeIs_bytes _ _ _) (by decide) FB.slot_bytes_getitem FB.entry_bytes_getitem (FB.args_bytes_getitem_2 _ _) (KBc.meets_slice2 l.toArray t _ p1 p2)
    ⟨Heap.IsSliceOf.new _ _ _ _, Nat.le_trans (KBc.size_picked_le l.toArray lo hi) (by simp [sizeLine_eq]; lia), fun t' k => ?_⟩⟩ (hss _ _ _) (ht _ _)
  rw [sl_bytes]
  exact ⟨Φ', g, (H'.garbage { cls := .type "slice", data := .fields #[vl, vu, .none] } s'.toks).toks _, .bytes _ _⟩
end
end Mine
end
section
open PySem PySem.W PySem.Calls PyProof.Rows PyProof.V
namespace Mine

theorem kept_all {C : Cx} {ns : List Str} (h : ns.map C.env.kindOf = ns.map fun zz1 => some .local) : ∀ n ∈ ns, Kept C n := fun n hn => .loc (by
  have := List.map_inj_left.mp h n hn
  exact this)

theorem bits_le {n k : Nat} (h : n < 2 ^ k) : Builtin.Int.intBits (n : Int) ≤ k := by
  unfold Builtin.Int.intBits
  split
  · exact Nat.zero_le _
  · rename_i h0
    have hn : n ≠ 0 := fun e => h0 (by rw [e]; rfl)
    have : (n : Int).natAbs.log2 < k := (Nat.log2_lt (by simpa using hn)).mpr (by simpa using h)
    lia
theorem p16 (k : Nat) : 16 ^ k = 2 ^ (4 * k) := by rw [show (16 : Nat) = 2 ^ 4 from rfl, ← Nat.pow_mul]
theorem mulOk {a b k j : Nat} (ha : a < 16 ^ k) (hb : b < 16 ^ j) (hk : k ≤ 2000) (hj : j ≤ 2000) : IntMulOk (a : Int) (b : Int) := by
  have h1 := bits_le (p16 k ▸ ha)
  have h2 := bits_le (p16 j ▸ hb)
  unfold IntMulOk
  have h3 : Builtin.Int.intTooBig (((Builtin.Int.intBits (a : Int) + Builtin.Int.intBits (b : Int) : Nat)) : Int) = false := by
    unfold Builtin.Int.intTooBig
    rw [decide_eq_false_iff_not]
    have : (20000 : Int) ≤ bitsLine := by decide
    lia
  rw [show ((Builtin.Int.intBits (a : Int) : Int) + (Builtin.Int.intBits (b : Int) : Int)) = (((Builtin.Int.intBits (a : Int) + Builtin.Int.intBits (b : Int) : Nat)) : Int) from by push_cast; rfl, h3]
  simp
theorem noPy16 {a : Int} {k : Nat} (h : k ≤ 2000) : Builtin.divisionGoesByPylong a ((16 ^ k : Nat) : Int) = false := by
  refine PyProof.noPylong_of_log2 ?_
  rw [Int.natAbs_natCast, p16, Nat.log2_two_pow]
  lia
theorem self_lt16 (k : Nat) : 16 ^ k < 16 ^ (k + 1) := Nat.pow_lt_pow_right (by decide) (Nat.lt_succ_self _)
theorem fdivN (a b : Nat) : (a : Int).fdiv (b : Int) = ((a / b : Nat) : Int) := by
  rw [Int.fdiv_eq_ediv_of_nonneg _ (Int.natCast_nonneg _)]; rfl
theorem fmodN (a b : Nat) : (a : Int).fmod (b : Int) = ((a % b : Nat) : Int) := by
  rw [Int.fmod_eq_emod_of_nonneg _ (Int.natCast_nonneg _)]; rfl

structure Way where
  root : Nat
  up : Nat
  cnt : Nat
  val : Nat
deriving DecidableEq
noncomputable def Way.times (a b : Way) : Way :=
  if b.root ≠ 0 then b
  else if b.up ≤ a.cnt then ⟨a.root, a.up, a.cnt - b.up + b.cnt, a.val / 16 ^ b.up * 16 ^ b.cnt + b.val⟩
  else if a.root ≠ 0 then ⟨a.root, 0, b.cnt, b.val⟩
  else ⟨0, a.up + b.up - a.cnt, b.cnt, b.val⟩
noncomputable abbrev dW (w : Way) : Dat := .tuple [.int w.root, .int w.up, .int w.cnt, .int w.val]
noncomputable def Way.Ok (w : Way) : Prop := w.root ≤ 2 ∧ w.up ≤ 500 ∧ w.cnt ≤ 500 ∧ w.val < 16 ^ w.cnt

theorem bneI {a b : Nat} : ((a : Int) != (b : Int)) = decide (a ≠ b) := by
  by_cases h : a = b <;> simp [h] <;> lia
theorem beqI {a b : Nat} : ((a : Int) == (b : Int)) = decide (a = b) := by
  by_cases h : a = b <;> simp [h] <;> lia

theorem j_times {a b : Way} (ha : a.Ok) (hb : b.Ok) : FnJ "_law_times" 1 [dW a, dW b] (.dat (dW (a.times b))) := by
  refine FnJ.intro (ns := ["one", "two"]) (pr := parsOf "_law_times") (bd := bodyOf "_law_times") (sc := scopeOf "_law_times") (by rfl) (by decide +kernel) (fun doc pm an cd ct => len2 fun a b => rfl) rfl (by decide +kernel) (by decide +kernel) (by decide +kernel) ?_
  intro p hh
  refine ExJ.cons (SxJ.unpack (EvJ.name rfl) hh rfl rfl (kept_all (by rfl)) ?_)
  refine ExJ.cons (SxJ.unpack (EvJ.name rfl) hh rfl rfl (kept_all (by rfl)) ?_)
  refine ExJ.cons (SxJ.ifs (TvJ.val (EvJ.name rfl) tr_int) (fun h => ?_) fun h => ?_)
  · refine ExJ.cons (SxJ.ret (EvJ.name rfl) ?_)
    have : b.root ≠ 0 := by simpa using h
    simp only [RetIs, Way.times, if_pos this]
  have hb0 : b.root = 0 := by simpa using h
  refine ExJ.nil ?_
  refine ExJ.cons (SxJ.ifs (TvJ.cmp (EvJ.name rfl) (EvJ.name rfl) op_leI) (fun h => ?_) fun h => ?_)
  · have h1 : b.up ≤ a.cnt := by simpa using h
    have e16 : ∀ k : Nat, ((16 : Int)) ^ k = ((16 ^ k : Nat) : Int) := fun k => by push_cast; rfl
    obtain ⟨_, ha2, ha3, ha4⟩ := ha
    obtain ⟨_, hb2, hb3, hb4⟩ := hb
    have hdv : a.val / 16 ^ b.up < 16 ^ a.cnt := Nat.lt_of_le_of_lt (Nat.div_le_self _ _) ha4
    refine ExJ.cons (SxJ.ret (EvJ.tupE (.cons (EvJ.name rfl) (.cons (EvJ.name rfl) (.cons (EvJ.binop (EvJ.binop (EvJ.name rfl) (EvJ.name rfl) op_sub) (EvJ.name rfl) op_add) (.cons
      (EvJ.binop (EvJ.binop (EvJ.binop (EvJ.name rfl) (EvJ.binop EvJ.intC (EvJ.name rfl) (op_pow (n := b.up) (by lia) (by decide))) (op_fdiv (by rw [e16]; exact_mod_cast Nat.ne_of_gt (Nat.pow_pos (by decide))) (by rw [e16]; exact noPy16 (by lia)))) (EvJ.binop EvJ.intC (EvJ.name rfl) (op_pow (n := b.cnt) (by lia) (by decide))) (op_mul (by rw [e16, e16, fdivN]; exact mulOk hdv (self_lt16 _) (by lia) (by lia)))) (EvJ.name rfl) op_add) .nil))))) ?_)
    simp only [RetIs, Way.times, hb0, ne_eq, not_true_eq_false, if_false, if_pos h1, e16, fdivN, dW, Int.natCast_add, Int.natCast_mul, Int.natCast_sub h1]
  · have h1 : ¬ b.up ≤ a.cnt := by simpa using h
    refine ExJ.nil (ExJ.cons (SxJ.ifs (TvJ.val (EvJ.name rfl) tr_int) (fun h => ?_) fun h => ?_))
    · refine ExJ.cons (SxJ.ret (EvJ.tupE (.cons (EvJ.name rfl) (.cons EvJ.intC (.cons (EvJ.name rfl) (.cons (EvJ.name rfl) .nil))))) ?_)
      have : a.root ≠ 0 := by simpa using h
      simp only [RetIs, Way.times, hb0, ne_eq, not_true_eq_false, if_false, if_neg h1, this, not_false_eq_true, if_true]
      rfl
    · refine ExJ.nil (ExJ.cons (SxJ.ret (EvJ.tupE (.cons EvJ.intC (.cons (EvJ.binop (EvJ.binop (EvJ.name rfl) (EvJ.name rfl) op_add) (EvJ.name rfl) op_sub) (.cons (EvJ.name rfl) (.cons (EvJ.name rfl) .nil))))) ?_))
      have : a.root = 0 := by simpa using h
      simp only [RetIs, Way.times, hb0, this, ne_eq, not_true_eq_false, if_false, if_neg h1, dW]
      rw [show ((a.up + b.up - a.cnt : Nat) : Int) = (a.up : Int) + b.up - a.cnt from by lia]
      rfl
end Mine
end
section
open PySem PySem.W PySem.Calls PyProof.Rows PyProof.V
namespace Mine

theorem sl_take {α : Type} (k : Nat) (l : List α) : sl none (some (k : Int)) l = l.take k := by
  unfold sl kms_lo kms_hi
  have : ¬ (k : Int) < 0 := by lia
  simp only [this, if_false, Int.toNat_natCast, List.drop_zero, Nat.sub_zero]
  rcases Nat.le_total k l.length with h | h
  · rw [Nat.min_eq_left h]
  · rw [Nat.min_eq_right h, List.take_of_length_le h, List.take_of_length_le (Nat.le_refl _)]
theorem sl_drop {α : Type} (k : Nat) (l : List α) : sl (some (k : Int)) none l = l.drop k := by
  unfold sl kms_lo kms_hi
  have : ¬ (k : Int) < 0 := by lia
  simp only [this, if_false, Int.toNat_natCast]
  rcases Nat.le_total k l.length with h | h
  · rw [Nat.min_eq_left h, List.take_of_length_le (by simp)]
  · rw [Nat.min_eq_right h]; simp [List.drop_eq_nil_of_le h]
theorem sl_mid {α : Type} (a b : Nat) (l : List α) : sl (some (a : Int)) (some (b : Int)) l = (l.drop a).take (b - a) := by
  unfold sl kms_lo kms_hi
  have h1 : ¬ (a : Int) < 0 := by lia
  have h2 : ¬ (b : Int) < 0 := by lia
  simp only [h1, h2, if_false, Int.toNat_natCast]
  rcases Nat.le_total a l.length with h | h
  · rw [Nat.min_eq_left h]
    rcases Nat.le_total b l.length with h' | h'
    · rw [Nat.min_eq_left h']
    · rw [Nat.min_eq_right h', List.take_of_length_le (by simp), List.take_of_length_le (by simp; lia)]
  · rw [Nat.min_eq_right h]; simp [List.drop_eq_nil_of_le h]

theorem j_sep (l : List Nat) : FnJ "_get_sep" 1 [DS l] (.dat (DS [47])) := by
  refine FnJ.intro (ns := ["path"]) (pr := parsOf "_get_sep") (bd := bodyOf "_get_sep") (sc := scopeOf "_get_sep") (by rfl) (by decide +kernel) (fun doc pm an cd ct => len1 fun a => rfl) rfl (by decide +kernel) (by decide +kernel) (by decide +kernel) ?_
  intro p hh
  refine ExJ.cons (SxJ.ifs (TvJ.val (EvJ.isBytes (EvJ.name rfl)) tr_bool) (fun h => by cases h) fun h => ?_)
  exact ExJ.cons (SxJ.ret EvJ.strC rfl)
theorem j_isabs (l : List Nat) : FnJ "isabs" 2 [DS l] (.dat (.bool (decide (l.head? = some 47)))) := by
  refine FnJ.intro (ns := ["s"]) (pr := parsOf "isabs") (bd := bodyOf "isabs") (sc := scopeOf "isabs") (by rfl) (by decide +kernel) (fun doc pm an cd ct => len1 fun a => rfl) rfl (by decide +kernel) (by decide +kernel) (by decide +kernel) ?_
  intro p hh
  refine ExJ.cons (SxJ.assign (EvJ.callL (j_fspath l) hh (.cons (EvJ.name rfl) .nil)) (.loc rfl) ?_)
  refine ExJ.cons (SxJ.assign (EvJ.callL (j_sep l) hh (.cons (EvJ.name rfl) .nil)) (.loc rfl) ?_)
  exact ExJ.cons (SxJ.ret (EvJ.meth1 (EvJ.name rfl) (EvJ.name rfl) (meth_starts 47)) rfl)
theorem j_cmp (x y : List Nat) : FnJ "three_way_cmp" 1 [DS x, DS y] (.dat (.int ((if y < x then 1 else 0) - if x < y then 1 else 0))) := by
  refine FnJ.intro (ns := ["x", "y"]) (pr := parsOf "three_way_cmp") (bd := bodyOf "three_way_cmp") (sc := scopeOf "three_way_cmp") (by rfl) (by decide +kernel) (fun doc pm an cd ct => len2 fun a b => rfl) rfl (by decide +kernel) (by decide +kernel) (by decide +kernel) ?_
  intro p hh
  refine ExJ.cons (SxJ.ret (EvJ.binop (EvJ.cmp (EvJ.name rfl) (EvJ.name rfl) op_gtS) (EvJ.cmp (EvJ.name rfl) (EvJ.name rfl) op_ltS) op_subB) ?_)
  simp only [RetIs, decide_eq_true_eq]

noncomputable def splitrootL : List Nat → List Nat × List Nat
  | 47 :: 47 :: 47 :: r => ([47], 47 :: 47 :: r)
  | 47 :: 47 :: r => ([47, 47], r)
  | 47 :: r => ([47], r)
  | l => ([], l)
theorem spr_rel {l : List Nat} (h : l.take 1 ≠ [47]) : splitrootL l = ([], l) := by
  unfold splitrootL
  split
  · exact absurd rfl h
  · exact absurd rfl h
  · exact absurd rfl h
  · rfl
theorem spr_one {r : List Nat} (h : r.take 1 ≠ [47] ∨ (r.drop 1).take 1 = [47]) : splitrootL (47 :: r) = ([47], r) := by
  cases r with
  | nil => rfl
  | cons c r =>
    by_cases hc : c = 47
    · subst hc
      have h1 : r.take 1 = [47] := h.resolve_left fun q => q rfl
      cases r with
      | nil => cases h1
      | cons d r => cases h1; rfl
    · simp [splitrootL, hc]
theorem spr_two {r : List Nat} (h : r.take 1 = [47]) (h2 : (r.drop 1).take 1 ≠ [47]) : splitrootL (47 :: r) = ([47, 47], r.drop 1) := by
  cases r with
  | nil => cases h
  | cons c r =>
    cases h
    cases r with
    | nil => rfl
    | cons d r =>
      have : d ≠ 47 := fun e => h2 (by rw [e]; rfl)
      simp [splitrootL, this]
theorem take_cons {l : List Nat} {c : Nat} (h : l.take 1 = [c]) : ∃ r, l = c :: r := by
  cases l with
  | nil => cases h
  | cons d r => cases h; exact ⟨r, rfl⟩
theorem j_splitroot (l : List Nat) (hz : l.length ≤ 1000000) : FnJ "splitroot" 2 [DS l] (.dat (.tuple [DS [], DS (splitrootL l).1, DS (splitrootL l).2])) := by
  refine FnJ.intro (ns := ["p"]) (pr := parsOf "splitroot") (bd := bodyOf "splitroot") (sc := scopeOf "splitroot") (by rfl) (by decide +kernel) (fun doc pm an cd ct => len1 fun a => rfl) rfl (by decide +kernel) (by decide +kernel) (by decide +kernel) ?_
  intro p hh
  have e1 : sl none (some 1) l = l.take 1 := sl_take 1 l
  have e2 : sl (some 1) (some 2) l = (l.drop 1).take 1 := sl_mid 1 2 l
  have e3 : sl (some 2) (some 3) l = (l.drop 2).take 1 := sl_mid 2 3 l
  have e4 : sl (some 1) none l = l.drop 1 := sl_drop 1 l
  have e5 : sl none (some 2) l = l.take 2 := sl_take 2 l
  have e6 : sl (some 2) none l = l.drop 2 := sl_drop 2 l
  refine ExJ.cons (SxJ.assign (EvJ.callL (j_fspath l) hh (.cons (EvJ.name rfl) .nil)) (.loc rfl) ?_)
  refine ExJ.cons (SxJ.ifs (TvJ.val (EvJ.isBytes (EvJ.name rfl)) tr_bool) (fun h => by cases h) fun h => ?_)
  refine ExJ.cons (SxJ.assign EvJ.strC (.loc rfl) ?_)
  refine ExJ.cons (SxJ.assign EvJ.strC (.loc rfl) ?_)
  refine ExJ.nil ?_
  refine ExJ.cons (SxJ.ifs (TvJ.cmp (EvJ.sliceS (EvJ.name rfl) .none (.some EvJ.intC) hz) (EvJ.name rfl) (op_neS (y := [47]))) (fun h => ?_) fun h => ?_)
  · refine ExJ.cons (SxJ.ret (EvJ.tupE (.cons (EvJ.name rfl) (.cons (EvJ.name rfl) (.cons (EvJ.name rfl) .nil)))) ?_)
    rw [e1] at h
    rw [spr_rel (of_decide_eq_true h)]; rfl
  · rw [e1] at h
    obtain ⟨r, rfl⟩ := take_cons (Classical.not_not.mp (of_decide_eq_false h))
    refine ExJ.cons (SxJ.ifs (TvJ.orT (TvJ.cmp (EvJ.sliceS (EvJ.name rfl) (.some EvJ.intC) (.some EvJ.intC) hz) (EvJ.name rfl) (op_neS (y := [47]))) fun zz1 => TvJ.orT (TvJ.cmp (EvJ.sliceS (EvJ.name rfl) (.some EvJ.intC) (.some EvJ.intC) hz) (EvJ.name rfl) (op_eqS (y := [47]))) fun zz1 => .orNil) (fun h => ?_) fun h => ?_)
    · refine ExJ.cons (SxJ.ret (EvJ.tupE (.cons (EvJ.name rfl) (.cons (EvJ.name rfl) (.cons (EvJ.sliceS (EvJ.name rfl) (.some EvJ.intC) .none hz) .nil)))) ?_)
      rw [e2, e3] at h
      have h' : r.take 1 ≠ [47] ∨ (r.drop 1).take 1 = [47] := by simpa using h
      rw [spr_one h', e4]; rfl
    · refine ExJ.cons (SxJ.ret (EvJ.tupE (.cons (EvJ.name rfl) (.cons (EvJ.sliceS (EvJ.name rfl) .none (.some EvJ.intC) hz) (.cons (EvJ.sliceS (EvJ.name rfl) (.some EvJ.intC) .none hz) .nil)))) ?_)
      rw [e2, e3] at h
      have h' : r.take 1 = [47] ∧ (r.drop 1).take 1 ≠ [47] := by simpa using h
      obtain ⟨q, e⟩ := take_cons h'.1
      rw [spr_two h'.1 h'.2, e5, e6, e]; rfl

noncomputable def lastL (l : List Nat) : List Nat × List Nat := ((l.reverse.dropWhile (· != 47)).reverse, (l.reverse.takeWhile (· != 47)).reverse)
noncomputable def splitPL (l : List Nat) : List Nat × List Nat :=
  (if (lastL l).1 ≠ [] ∧ (lastL l).1 ≠ List.replicate (lastL l).1.length 47 then rstripL 47 (lastL l).1 else (lastL l).1, (lastL l).2)
theorem lastL_app (l : List Nat) : (lastL l).1 ++ (lastL l).2 = l := by
  unfold lastL
  rw [← List.reverse_append, List.takeWhile_append_dropWhile, List.reverse_reverse]
theorem lastL_cases (l : List Nat) : ((lastL l).1 = [] ∧ 47 ∉ l) ∨ ∃ a, (lastL l).1 = a ++ [47] := by
  have h : ∀ r : List Nat, (r.dropWhile (· != 47) = [] ∧ 47 ∉ r) ∨ ∃ a, r.dropWhile (· != 47) = 47 :: a := by
    intro r
    induction r with
    | nil => exact .inl ⟨rfl, by simp⟩
    | cons c r ih =>
      by_cases hc : c = 47
      · subst hc; exact .inr ⟨r, rfl⟩
      · rw [List.dropWhile_cons_of_pos (by simpa using hc)]
        rcases ih with ⟨h1, h2⟩ | h1
        · exact .inl ⟨h1, by simp [h2, Ne.symm hc]⟩
        · exact .inr h1
  unfold lastL
  rcases h l.reverse with ⟨h1, h2⟩ | ⟨a, h1⟩
  · exact .inl ⟨by rw [h1]; rfl, by simpa using h2⟩
  · exact .inr ⟨a.reverse, by simp [h1]⟩
theorem lastL_free (l : List Nat) : 47 ∉ (lastL l).2 := by
  intro h
  unfold lastL at h
  have h2 : ∀ r : List Nat, 47 ∉ r.takeWhile (· != 47) := fun r => by
    induction r with
    | nil => simp
    | cons c r ih =>
      by_cases hc : c = 47
      · simp [hc]
      · simp [hc, ih, Ne.symm hc]
  exact h2 _ (List.mem_reverse.mp h)
theorem j_split (l : List Nat) (hz : l.length ≤ 1000000) : FnJ "split" 2 [DS l] (.dat (.tuple [DS (splitPL l).1, DS (splitPL l).2])) := by
  refine FnJ.intro (ns := ["p"]) (pr := parsOf "split") (bd := bodyOf "split") (sc := scopeOf "split") (by rfl) (by decide +kernel) (fun doc pm an cd ct => len1 fun a => rfl) rfl (by decide +kernel) (by decide +kernel) (by decide +kernel) ?_
  intro p hh
  have happ := lastL_app l
  have hfr := lastL_free l
  have hlen := congrArg List.length happ
  rw [List.length_append] at hlen
  have hr : MethS1 "rfind" l (DS [47]) (.int ((((lastL l).1.length : Nat) : Int) - 1)) := by
    refine meth_rfind ?_
    rcases lastL_cases l with ⟨h1, h2⟩ | ⟨a, h1⟩
    · exact .inl ⟨h2, by rw [h1]; rfl⟩
    · refine .inr ⟨a, (lastL l).2, ?_, hfr, ?_⟩
      · rw [h1] at happ; simpa using happ.symm
      · rw [h1]; simp
  have hi : (((lastL l).1.length : Int) - 1 + 1) = ((lastL l).1.length : Int) := by lia
  have s1 : sl none (some ((lastL l).1.length : Int)) l = (lastL l).1 := by
    rw [sl_take]
    exact (congrArg (List.take _) happ.symm).trans List.take_left
  have s2 : sl (some ((lastL l).1.length : Int)) none l = (lastL l).2 := by
    rw [sl_drop]
    exact (congrArg (List.drop _) happ.symm).trans List.drop_left
  refine ExJ.cons (SxJ.assign (EvJ.callL (j_fspath l) hh (.cons (EvJ.name rfl) .nil)) (.loc rfl) ?_)
  refine ExJ.cons (SxJ.assign (EvJ.callL (j_sep l) hh (.cons (EvJ.name rfl) .nil)) (.loc rfl) ?_)
  refine ExJ.cons (SxJ.assign (EvJ.binop (EvJ.meth1 (EvJ.name rfl) (EvJ.name rfl) hr) EvJ.intC op_add) (.loc rfl) ?_)
  rw [hi]
  refine ExJ.cons (SxJ.unpackSw (ns := ["head", "tail"]) (EvJ.tupE (.cons (EvJ.sliceS (EvJ.name rfl) .none (.some (EvJ.name rfl)) hz) (.cons (EvJ.sliceS (EvJ.name rfl) (.some (EvJ.name rfl)) .none hz) .nil))) hh rfl rfl (kept_all (by rfl)) ?_)
  rw [s1, s2]
  refine ExJ.cons (SxJ.ifs (TvJ.andT (TvJ.val (EvJ.name rfl) (tr_str (x := (lastL l).1) (by lia))) fun zz1 => TvJ.andT (TvJ.cmp (EvJ.name rfl) (EvJ.binop (EvJ.name rfl) (EvJ.callB (bi_lenS (l := (lastL l).1) (by lia)) hh (.cons (EvJ.name rfl) .nil)) (op_mulS (by lia))) op_neS) fun zz1 => .andNil) (fun h => ?_) fun h => ?_)
  · refine ExJ.cons (SxJ.assign (EvJ.meth1 (EvJ.name rfl) (EvJ.name rfl) (meth_rstrip 47 (l := (lastL l).1) (by lia))) (.loc rfl) ?_)
    refine ExJ.nil (ExJ.cons (SxJ.ret (EvJ.tupE (.cons (EvJ.name rfl) (.cons (EvJ.name rfl) .nil))) ?_))
    have h' : (lastL l).1 ≠ [] ∧ (lastL l).1 ≠ List.replicate (lastL l).1.length 47 := by simpa using h
    simp only [RetIs, splitPL, if_pos h']
  · refine ExJ.nil (ExJ.cons (SxJ.ret (EvJ.tupE (.cons (EvJ.name rfl) (.cons (EvJ.name rfl) .nil))) ?_))
    have h' : ¬ ((lastL l).1 ≠ [] ∧ (lastL l).1 ≠ List.replicate (lastL l).1.length 47) := by simpa using h
    simp only [RetIs, splitPL, if_neg h']
end Mine
end
section
open PySem PySem.W PySem.Calls PyProof.Rows PyProof.V
namespace Mine

section
variable {C : Cx} {X Xi Φ Φ' : Led} {ρ ρ' : Loc} {m : Str → Option Value} {ow : List OwnE} {s s' : Shared} {x y : Str} {pos sp ap cp tp px py : Pos} {av : AV} {v : Value} {k : Nat} {ds : List Dat} {e o : Expr}

theorem AtM.xdrop (H : AtM C (Xi ++ X) Φ ρ m ow s) : AtM C X Φ ρ m ow s :=
  { H with
    xtr := fun p hp => H.xtr p (List.mem_append_right _ hp), xtrm := fun p hp => H.xtrm p (List.mem_append_right _ hp), xled := fun p hp => H.xled p (List.mem_append_right _ hp)
    xnew := fun p hp => H.xnew p (List.mem_append_right _ hp), xcel := fun p hp => H.xcel p (List.mem_append_right _ hp)
    xnd := by
      have := H.xnd
      rw [List.map_append] at this
      exact (List.nodup_append.mp this).2.1 }

theorem AtM.xloose (H : AtM C (Xi ++ X) Φ ρ m ow s) {wr : List Addr} (hw : ∀ b ∈ wr, b ∈ Xi.map (·.1)) {h' : Heap} {tk : Nat} (k : ∀ b o, b ∉ wr → s.heap.get? b = some o → h'.get? b = some o) :
    AtM C X Φ ρ m ow { s with heap := h', toks := tk } := by
  have mem : ∀ {b}, b ∈ wr → ∃ p ∈ Xi, p.1 = b := fun hb => by
    obtain ⟨p, hp, e⟩ := List.mem_map.mp (hw _ hb)
    exact ⟨p, hp, e⟩
  have nmut : ∀ a ∈ muts C ow, a ∉ wr := fun a ha hb => by
    obtain ⟨p, hp, e⟩ := mem hb
    exact (H.xtrm p (List.mem_append_left _ hp)).1 (e ▸ ha)
  have nled : ∀ q ∈ Φ, q.1 ∉ wr := fun q hq hb => by
    obtain ⟨p, hp, e⟩ := mem hb
    exact H.xled p (List.mem_append_left _ hp) q hq e.symm
  have nx : ∀ q ∈ X, q.1 ∉ wr := fun q hq hb => by
    obtain ⟨p, hp, e⟩ := mem hb
    have := H.xnd
    rw [List.map_append] at this
    exact (List.nodup_append.mp this).2.2 p.1 (List.mem_map.mpr ⟨p, hp, rfl⟩) q.1 (List.mem_map.mpr ⟨q, hq, rfl⟩) e
  have n0 : ∀ b o, C.h₀.get? b = some o → b ∉ wr := fun b o e hb => by
    obtain ⟨p, hp, e2⟩ := mem hb
    have := H.xnew p (List.mem_append_left _ hp)
    rw [e2, e] at this; cases this
  have ncell : ∀ {c w}, s.heap.IsCell c w → c ∈ muts C ow → h'.IsCell c w := fun {c w} hi hc => by
    obtain ⟨o, ho, hd⟩ := hi
    exact ⟨o, k _ _ (nmut _ hc) ho, hd⟩
  have noff : ∀ {b o}, s.heap.get? b = some o → (∃ es n, o.data = .dict es n) → b ∉ wr := fun {b o} ho hd hb => by
    obtain ⟨p, hp, e2⟩ := mem hb
    have h1 := H.xtr p (List.mem_append_left _ hp)
    have h2 := (H.xtrm p (List.mem_append_left _ hp)).2
    rw [e2, ho] at h1; cases h1
    obtain ⟨es, n, hd⟩ := hd
    exact h2 es n hd
  have D := H.xdrop
  refine { D with fr := ⟨?_, fun b o e => k b o (n0 b o (H.baseIn b o e)) (H.fr.keep b o e), H.fr.above⟩, keep := ⟨fun b o e n => k b o (n0 b o e) (H.keep.off b o e n), fun b o e => ?_⟩, stk := fun env he => ?_, led := fun p hp => k _ _ (nled p hp) (H.led p hp), xtr := fun p hp => k _ _ (nx p hp) (D.xtr p hp), own := fun q hq => k _ _ (nmut _ (.tail _ (List.mem_append_right _ (List.mem_map.mpr ⟨q, hq, rfl⟩)))) (H.own q hq), cells := fun q hq => ?_, loc := fun y b e => ?_ }
  · obtain ⟨o, es, ep, ho, hd, r⟩ := H.fr.ns
    exact ⟨o, es, ep, k _ _ (nmut _ (.head _)) ho, hd, r⟩
  · obtain ⟨sl, e'⟩ := H.keep.on b o e
    exact ⟨sl, k _ _ (n0 b o e) e'⟩
  · obtain ⟨hk, L, o, es, n, hf, hb, ho, hd⟩ := H.stk env he
    exact ⟨hk, L, o, es, n, hf, hb, k _ _ (noff ho ⟨es, n, hd⟩) ho, hd⟩
  · obtain ⟨w, hi⟩ := H.cells q hq
    exact ⟨w, ncell hi (.tail _ (List.mem_append_left _ (List.mem_map.mpr ⟨q, hq, rfl⟩)))⟩
  · obtain ⟨u, hs, hr⟩ := H.loc y b e
    refine ⟨u, ?_, hr⟩
    rcases hs with hs | ⟨hk, c, hc, o, ho, hd⟩
    · exact .inl hs
    · refine .inr ⟨hk, c, hc, o, k _ _ (fun hb => ?_) ho, hd⟩
      obtain ⟨p, hp, e2⟩ := mem hb
      have h1 := H.xtr p (List.mem_append_left _ hp)
      rw [e2, ho] at h1; cases h1
      exact H.xcel p (List.mem_append_left _ hp) _ hd

noncomputable def Xob (o : Obj) : Prop := (∀ es n, o.data ≠ .dict es n) ∧ ∀ v, o.data ≠ .cell v
theorem snap {h : Heap} : ∀ {ax : List Addr}, (∀ b ∈ ax, ∃ o, h.get? b = some o ∧ Xob o) → ∃ Xj : Led, Xj.map (·.1) = ax ∧ ∀ p ∈ Xj, h.get? p.1 = some p.2 ∧ Xob p.2
  | [], _ => ⟨[], rfl, fun zz1 hp => absurd hp List.not_mem_nil⟩
  | a :: ax, he => by
    obtain ⟨Xj, e, hx⟩ := snap fun b hb => he b (.tail _ hb)
    obtain ⟨o, ho⟩ := he a (.head _)
    refine ⟨(a, o) :: Xj, by rw [List.map_cons, e], fun p hp => ?_⟩
    rcases List.mem_cons.mp hp with rfl | hp
    · exact ho
    · exact hx p hp
theorem AtM.xback (H : AtM C (Xi ++ X) Φ ρ m ow s) {ρ' : Loc} {m' : Str → Option Value} (H' : AtM C X Φ ρ' m' ow s') (he : ∀ b ∈ Xi.map (·.1), ∃ o, s'.heap.get? b = some o ∧ Xob o) :
    ∃ Xj : Led, Xj.map (·.1) = Xi.map (·.1) ∧ AtM C (Xj ++ X) Φ ρ' m' ow s' := by
  obtain ⟨Xj, e, hx⟩ := snap he
  have bk : ∀ {p}, p ∈ Xj → ∃ q ∈ Xi, q.1 = p.1 := fun {p} hp => by
    have : p.1 ∈ Xi.map (·.1) := e ▸ List.mem_map.mpr ⟨p, hp, rfl⟩
    obtain ⟨q, hq, e2⟩ := List.mem_map.mp this
    exact ⟨q, hq, e2⟩
  have either : ∀ {p}, p ∈ Xj ++ X → (p ∈ Xj ∧ ∃ q ∈ Xi, q.1 = p.1) ∨ p ∈ X := fun {p} hp => (List.mem_append.mp hp).imp (fun h => ⟨h, bk h⟩) id
  refine ⟨Xj, e, { H' with xtr := fun p hp => ?_, xtrm := fun p hp => ?_, xled := fun p hp => ?_, xnew := fun p hp => ?_, xcel := fun p hp => ?_, xnd := ?_ }⟩
  · rcases either hp with ⟨h1, q, hq, e2⟩ | h1
    · exact (hx p h1).1
    · exact H'.xtr p h1
  · rcases either hp with ⟨h1, q, hq, e2⟩ | h1
    · exact ⟨e2 ▸ (H.xtrm q (List.mem_append_left _ hq)).1, (hx p h1).2.1⟩
    · exact H'.xtrm p h1
  · rcases either hp with ⟨h1, q, hq, e2⟩ | h1
    · exact fun r hr => e2 ▸ H.xled q (List.mem_append_left _ hq) r hr
    · exact H'.xled p h1
  · rcases either hp with ⟨h1, q, hq, e2⟩ | h1
    · exact e2 ▸ H.xnew q (List.mem_append_left _ hq)
    · exact H'.xnew p h1
  · rcases either hp with ⟨h1, q, hq, e2⟩ | h1
    · exact (hx p h1).2.2
    · exact H'.xcel p h1
  · rw [List.map_append, e, ← List.map_append]
    exact H.xnd
theorem AtM.xput (H : AtM C X Φ ρ m ow s) {h' : Heap} {tk : Nat} (k : ∀ b o, s.heap.get? b = some o → h'.get? b = some o) {ax : List Addr} (hnd : ax.Nodup) (hn : ∀ b ∈ ax, s.heap.get? b = none ∧ ∃ o, h'.get? b = some o ∧ Xob o) :
    ∃ Xj : Led, Xj.map (·.1) = ax ∧ AtM C (Xj ++ X) Φ ρ m ow { s with heap := h', toks := tk } := by
  obtain ⟨Xj, e, hx⟩ := snap fun b hb => (hn b hb).2
  have G := H.keeps (s' := { s with heap := h', toks := tk }) k rfl rfl
  have isn : ∀ {p}, p ∈ Xj → s.heap.get? p.1 = none := fun {p} hp => (hn p.1 (e ▸ List.mem_map.mpr ⟨p, hp, rfl⟩)).1
  refine ⟨Xj, e, { G with xtr := fun p hp => ?_, xtrm := fun p hp => ?_, xled := fun p hp => ?_, xnew := fun p hp => ?_, xcel := fun p hp => ?_, xnd := ?_ }⟩
  · rcases List.mem_append.mp hp with h1 | h1
    · exact (hx p h1).1
    · exact G.xtr p h1
  · rcases List.mem_append.mp hp with h1 | h1
    · refine ⟨fun hm => ?_, (hx p h1).2.1⟩
      obtain ⟨o, ho⟩ := H.some_of_mut hm
      rw [isn h1] at ho; cases ho
    · exact G.xtrm p h1
  · rcases List.mem_append.mp hp with h1 | h1
    · intro r hr e2
      have := H.led r hr
      rw [e2, isn h1] at this; cases this
    · exact G.xled p h1
  · rcases List.mem_append.mp hp with h1 | h1
    · cases q : C.h₀.get? p.1 with
      | none => rfl
      | some o =>
        obtain ⟨sl, e'⟩ := H.keep.on _ _ q
        rw [isn h1] at e'; cases e'
    · exact G.xnew p h1
  · rcases List.mem_append.mp hp with h1 | h1
    · exact (hx p h1).2.2
    · exact G.xcel p h1
  · rw [List.map_append]
    refine List.nodup_append.mpr ⟨e ▸ hnd, H.xnd, fun a ha b hb e2 => ?_⟩
    obtain ⟨p, hp, rfl⟩ := List.mem_map.mp ha
    obtain ⟨q, hq, rfl⟩ := List.mem_map.mp hb
    have := H.xtr q hq
    rw [← e2, isn hp] at this; cases this
end
end Mine
end
section
open PySem PySem.W PySem.Calls PyProof.Rows PyProof.V
namespace Mine

noncomputable def tgNames : Expr → Option (List Str)
  | .Name x _ => some [x]
  | .Tuple es _ _ => namesOf es
  | _ => none

structure Walker (w : World) (I : Addr) (fp wr ax : List Addr) (St : Nat → Heap → Prop) (Φ0 : Led) (tg : Expr) (gs : List (Loc → Loc)) : Prop where
  frame : ∀ i h h', St i h → (∀ b ∈ fp, ∀ o, h.get? b = some o → h'.get? b = some o) → St i h'
  cov : ∀ b ∈ fp, b ∈ ax ∨ b ∈ Φ0.map (·.1)
  wrs : ∀ b ∈ wr, b ∈ ax
  ob : ∀ i h, St i h → ∀ b ∈ ax, ∃ o, h.get? b = some o ∧ Xob o
  self : ∀ A i (s : Shared) (Q : Value → Shared → Prop) (E : Value → Shared → Prop), St i s.heap → Q (.ref I) s → wpAny (model P w) A (pyIter (.ref I)) Q E s
  turn : ∀ C X Xi Φ ρ f s i g E, C.w = w → C.A.handled = none → (∀ ns, tgNames tg = some ns → ∀ n ∈ ns, Kept C n) → (∀ p ∈ Φ0, p ∈ Φ) → Xi.map (·.1) = ax → AtF C (Xi ++ X) Φ ρ f s → St i s.heap → gs[i]? = some g →
    wpAny (model P w) C.A (pyNext (.ref I)) (fun r s1 => ∃ v, r = some v ∧ wpAny (model P w) C.A (letOwnedTupleGo tg (.ref I) v) (fun zz1 s1' => wpAny (model P w) C.A (assign tg C.env v)
      (fun zz1 s2 => ∃ Xj, Xj.map (·.1) = ax ∧ At C (Xj ++ X) Φ (g ρ) s2 ∧ St (i + 1) s2.heap) E s1') E s1) E s
  stop : ∀ C X Xi Φ ρ f s E, C.w = w → C.A.handled = none → (∀ p ∈ Φ0, p ∈ Φ) → Xi.map (·.1) = ax → AtF C (Xi ++ X) Φ ρ f s → St gs.length s.heap →
    wpAny (model P w) C.A (pyNext (.ref I)) (fun r s1 => r = none ∧ AtF C X Φ ρ f s1) E s

inductive GotI (C : Cx) (X Φ : Led) (ρ : Loc) (f : Fm) (tg : Expr) (gs : List (Loc → Loc)) (it : Value) (s2 : Shared) : Prop
  | mk (I : Addr) (fp wr ax : List Addr) (St : Nat → Heap → Prop) (Φ' Xi : Led) (e : it = .ref I) (g : ∀ p ∈ Φ, p ∈ Φ') (hX : Xi.map (·.1) = ax) (H : AtF C (Xi ++ X) Φ' ρ f s2) (st : St 0 s2.heap) (W : Walker C.w I fp wr ax St Φ' tg gs) : GotI C X Φ ρ f tg gs it s2
theorem GotI.up {C : Cx} {X Φ Φ' : Led} {ρ : Loc} {f : Fm} {tg : Expr} {gs : List (Loc → Loc)} {it : Value} {s2 : Shared} (h : GotI C X Φ' ρ f tg gs it s2) (g : ∀ p ∈ Φ, p ∈ Φ') : GotI C X Φ ρ f tg gs it s2 :=
  let ⟨I, fp, wr, ax, St, Φ2, Xi, e, g2, hX, H, st, W⟩ := h
  ⟨I, fp, wr, ax, St, Φ2, Xi, e, fun p hp => g2 p (g p hp), hX, H, st, W⟩
noncomputable def ItJ (C : Cx) (ρ : Loc) (tg e : Expr) (gs : List (Loc → Loc)) : Prop :=
  ∀ X Φ f s, AtF C X Φ ρ f s → wpAny (model P C.w) C.A (eval e C.env) (fun x s1 => wpAny (model P C.w) C.A (pyIter x) (GotI C X Φ ρ f tg gs) (fun zz1 zz2 => False) s1) (fun zz1 zz2 => False) s

section
variable {C : Cx} {X Xi Φ Φ' : Led} {ρ ρ' : Loc} {m : Str → Option Value} {ow : List OwnE} {s s' : Shared} {x y : Str} {pos sp ap cp tp px py : Pos} {av : AV} {v : Value} {k : Nat} {ds : List Dat} {e o tg : Expr} {Q : Out → Prop} {gs : List (Loc → Loc)}

theorem st_keep {fp ax : List Addr} {St : Nat → Heap → Prop} {Φ0 : Led} (frame : ∀ i h h', St i h → (∀ b ∈ fp, ∀ o, h.get? b = some o → h'.get? b = some o) → St i h') (cov : ∀ b ∈ fp, b ∈ ax ∨ b ∈ Φ0.map (·.1)) {i : Nat} {f f' : Fm} {Xj : Led}
    (H : AtF C (Xj ++ X) Φ ρ f s) (ha : Xj.map (·.1) = ax) (hΦ : ∀ p ∈ Φ0, p ∈ Φ) (h : St i s.heap) (H' : AtF C (Xj ++ X) Φ' ρ' f' s') (hs : ∀ p ∈ Φ, p ∈ Φ') : St i s'.heap := by
  refine frame i _ _ h fun b hb o ho => ?_
  rcases cov b hb with q | q
  · rw [← ha] at q
    obtain ⟨p, hp, rfl⟩ := List.mem_map.mp q
    have h1 := H.xtr p (List.mem_append_left _ hp)
    rw [ho] at h1; cases h1
    exact H'.xtr p (List.mem_append_left _ hp)
  · obtain ⟨p, hp, rfl⟩ := List.mem_map.mp q
    have h1 := H.led p (hΦ p hp)
    rw [ho] at h1; cases h1
    exact H'.led p (hs p (hΦ p hp))
theorem Walker.keep {w : World} {I : Addr} {fp wr ax : List Addr} {St : Nat → Heap → Prop} {Φ0 : Led} (W : Walker w I fp wr ax St Φ0 tg gs) {i : Nat} {f f' : Fm} {Xj : Led}
    (H : AtF C (Xj ++ X) Φ ρ f s) (ha : Xj.map (·.1) = ax) (hΦ : ∀ p ∈ Φ0, p ∈ Φ) (h : St i s.heap) (H' : AtF C (Xj ++ X) Φ' ρ' f' s') (hs : ∀ p ∈ Φ, p ∈ Φ') : St i s'.heap :=
  st_keep W.frame W.cov H ha hΦ h H' hs

inductive ForI (C : Cx) (X Φ1 : Led) (I : Nat → Loc) (ax : List Addr) (St : Nat → Heap → Prop) (len n : Nat) (s' : Shared) : Prop
  | mk (i : Nat) (Φ' Xj : Led) (f' : Fm) (e : n = len - i) (hi : i ≤ len) (g : ∀ p ∈ Φ1, p ∈ Φ') (hX : Xj.map (·.1) = ax) (H : AtF C (Xj ++ X) Φ' (I i) f' s') (st : St i s'.heap) : ForI C X Φ1 I ax St len n s'
theorem SxJ.forE {body : List Stmt} (hit : ItJ C ρ tg e gs) (hh : C.A.handled = none) (hk : ∀ ns, tgNames tg = some ns → ∀ n ∈ ns, Kept C n) (I : Nat → Loc) (h0 : (I 0).Sub ρ)
    (step : ∀ i g, gs[i]? = some g → ExJ C (g (I i)) body (fun o => match o with | .next ρ' => (I (i + 1)).Sub ρ' | .cont ρ' => (I (i + 1)).Sub ρ' | .brk ρ' => Q (.next ρ') | .ret av => Q (.ret av) | .exc _ _ => False))
    (hq : Q (.next (I gs.length))) (hs : ∀ x, foldedSetIterable e C.env x = pure x := by intro a; rfl) : SxJ C ρ (.For tg e body [] pos) Q := fun X Φ f s H => by
  refine wpAny_For (ff (wpAny_mono (hit X Φ f s H) (fun x s1 h1 => ff (wpAny_mono h1 (fun it s2 h2 => ?_) fun zz1 zz2 f => f)) fun zz1 zz2 f => f)) hs
  obtain ⟨a, fp, wr, ax, St, Φ1, Xi, rfl, g1, hXi, H2, st0, W⟩ := h2
  refine codeAny_forLoop_any (ForI C X Φ1 I ax St gs.length) ?_ gs.length
    ⟨0, Φ1, Xi, f, rfl, Nat.zero_le _, fun zz1 h => h, hXi, AtM.sub H2 h0, st0⟩
  rintro n s3 ⟨i, Φ2, Xj, f', rfl, hi, g2, hXj, H3, st⟩
  rcases Nat.lt_or_eq_of_le hi with hlt | rfl
  · have hg : gs[i]? = some gs[i] := List.getElem?_eq_getElem hlt
    refine wpAny_mono (W.turn C X Xj Φ2 (I i) f' s3 i gs[i] _ rfl hh hk g2 hXj H3 st hg) (fun r s4 ⟨v, hv, h4⟩ => ?_) fun zz1 zz2 h => h
    subst hv
    refine wpAny_mono h4 (fun zz1 s4' h4 => wpAny_mono h4 (fun zz1 s5 ⟨Xk, hXk, ⟨f5, H5⟩, st5⟩ => ?_) fun zz1 zz2 h => h) fun zz1 zz2 h => h
    refine wpAny_mono (step i gs[i] hg (Xk ++ X) Φ2 f5 s5 H5) (fun fl s6 hd => ?_) fun e s6 hd => ?_
    · obtain ⟨Φ6, o, g6, hq6, hi6⟩ := hd
      have nx : ∀ {ρ'}, (I (i + 1)).Sub ρ' → At C (Xk ++ X) Φ6 ρ' s6 → ∃ m, m < gs.length - i ∧ ForI C X Φ1 I ax St gs.length m s6 := fun {ρ'} hsub ⟨f6, H6⟩ =>
        ⟨gs.length - (i + 1), by omega, i + 1, Φ6, Xk, f6, rfl, hlt, fun p hp => g6 p (g2 p hp), hXk, AtM.sub H6 hsub, W.keep H5 hXk g2 st5 H6 g6⟩
      cases hi6.got
      · exact nx hq6 hi6
      · obtain ⟨f6, H6⟩ := hi6
        exact ⟨Φ6, .next _, fun p hp => g6 p (g2 p (g1 p hp)), hq6, ⟨f6, AtM.xdrop H6⟩⟩
      · exact nx hq6 hi6
      · obtain ⟨⟨f6, H6⟩, hv⟩ := hi6
        exact ⟨Φ6, .ret _, fun p hp => g6 p (g2 p (g1 p hp)), hq6, ⟨f6, AtM.xdrop H6⟩, hv⟩
    · obtain ⟨_, _, _, _, _, q, _⟩ := hd
      exact q.elim
  · refine wpAny_mono (W.stop C X Xj Φ2 (I gs.length) f' s3 _ rfl hh g2 hXj H3 st) (fun r s4 ⟨hr, H4⟩ => ?_) fun zz1 zz2 h => h
    subst hr
    exact wpAny_execs_nil ⟨Φ2, .next _, fun p hp => g2 p (g1 p hp), hq, ⟨f', H4⟩⟩

theorem Walker.of {I : Addr} {fp wr ax : List Addr} {St : Nat → Heap → Prop} {Φ0 : Led} {w : World} {Pd : Nat → Value → Prop} {ds : List Dat} {n : Nat} (hW : ∀ A : Around, A.handled = none → Walks P w A I fp wr n Pd St) (hn : n = ds.length)
    (hP : ∀ i v d, Pd i v → ds[i]? = some d → DatIn Φ0 v d) (hcov : ∀ b ∈ fp, b ∈ ax ∨ b ∈ Φ0.map (·.1)) (hwr : ∀ b ∈ wr, b ∈ ax) (hob : ∀ i h, St i h → ∀ b ∈ ax, ∃ o, h.get? b = some o ∧ Xob o)
    (hself : ∀ A i (s : Shared) (Q : Value → Shared → Prop) (E : Value → Shared → Prop), St i s.heap → Q (.ref I) s → wpAny (model P w) A (pyIter (.ref I)) Q E s) :
    Walker w I fp wr ax St Φ0 (.Name x px) (ds.map fun d ρ => (x, .dat d) :: ρ) := by
  have W0 := hW {} rfl
  refine ⟨W0.frame, hcov, hwr, hob, hself, fun C X Xi Φ ρ f s i g E hw hh hk hΦ hX H st hg => ?_, fun C X Xi Φ ρ f s E hw hh hΦ hX H st => ?_⟩
  · rw [List.getElem?_map] at hg
    obtain ⟨d, hd, rfl⟩ := Option.map_eq_some_iff.mp hg
    have hlt : i < n := by rw [hn]; exact (List.getElem?_eq_some_iff.mp hd).1
    refine (hW C.A hh).item i s _ E hlt st fun v h' tk hp st' hkeep => ⟨v, rfl, ?_⟩
    refine wpAny_of_eq (show letOwnedTupleGo (.Name x px) (.ref I) v = pure () from rfl) ?_
    have H' := AtM.xloose H (wr := wr) (fun b hb => by rw [hX]; exact hwr b hb) (h' := h') (tk := tk) hkeep
    obtain ⟨Xj, e, H2⟩ := AtM.xback H H' (by rw [hX]; exact hob _ _ st')
    refine assign_Name (AtM.put H2 (hk [x] rfl x (.head _)) (av := .dat d) (DatIn.mono hΦ (hP _ _ _ hp hd)) fun s' ⟨f', H3⟩ => ⟨Xj, e.trans hX, ⟨f', H3⟩, ?_⟩)
    exact st_keep W0.frame hcov (f := f) (f' := f') H2 (e.trans hX) hΦ st' H3 fun zz1 h => h
  · rw [List.length_map, ← hn] at st
    exact (hW C.A hh).done s _ E st fun h' tk hkeep => ⟨rfl, AtM.xloose H (wr := wr) (fun b hb => by rw [hX]; exact hwr b hb) hkeep⟩
end

section
variable {C : Cx} {X Xi Φ Φ' : Led} {ρ ρ' : Loc} {m : Str → Option Value} {ow : List OwnE} {s s' : Shared} {x y : Str} {pos sp ap cp tp px py np : Pos} {av : AV} {v : Value} {k : Nat} {ds : List Dat} {e o tg : Expr} {Q : Out → Prop} {gs : List (Loc → Loc)}
theorem xob_fields {o : Obj} {fs : Array Value} (h : o.data = .fields fs) : Xob o := ⟨fun zz1 zz2 e => (by rw [h] at e; cases e), fun zz1 e => (by rw [h] at e; cases e)⟩
theorem xob_seq {o : Obj} {xs : Array Value} {n : Nat} (h : o.data = .seq xs n) : Xob o := ⟨fun zz1 zz2 e => (by rw [h] at e; cases e), fun zz1 e => (by rw [h] at e; cases e)⟩
theorem mem1 {a b : Addr} (h : b ∈ [a]) : b = a := List.mem_singleton.mp h
theorem ItJ.list (h : EvJ C ρ e (.dat (.list ds))) : ItJ C ρ (.Name x px) e (ds.map fun d ρ => (x, .dat d) :: ρ) := fun X Φ f s H => by
  refine wpAny_mono (h X Φ f s H) (fun v s1 ⟨Φ1, g1, H1, i1⟩ => ?_) fun zz1 zz2 f => f
  obtain ⟨l, vs, n, rfl, hm, hD⟩ := DatIn.listInv i1
  have ho := H1.led _ hm
  have hL : s1.heap.IsList l vs.toArray := ⟨_, ho, rfl, _, rfl⟩
  refine wpAny_pyIter_list hL ?_
  have hne : l ≠ s1.heap.objs.size := Nat.ne_of_lt (Heap.lt_size ho)
  obtain ⟨Xi, e, H2⟩ := AtM.xput H1 (h' := s1.heap.push { cls := .type "list_iterator", data := .fields #[.ref l, .int 0 0] }) (tk := s1.toks) (fun b o q => Heap.get?_push_of_some _ q) (ax := [s1.heap.objs.size]) (by simp)
    fun b hb => by rw [mem1 hb]; exact ⟨Heap.get?_none_of_le (Nat.le_refl _), _, Heap.get?_push_size _ rfl, xob_fields rfl⟩
  refine ⟨s1.heap.objs.size, [s1.heap.objs.size, l], [s1.heap.objs.size], [s1.heap.objs.size], fun i h => h.IsListIter s1.heap.objs.size l i ∧ h.IsList l vs.toArray, Φ1, Xi, rfl, g1, e, H2,
    ⟨⟨_, Heap.get?_push_size _ rfl, rfl, rfl⟩, ⟨_, Heap.get?_push_of_some _ ho, rfl, _, rfl⟩⟩, ?_⟩
  refine Walker.of (n := vs.toArray.size) (Pd := fun i v => vs.toArray[i]? = some v) (fun A hA => Walks.list hA _ l hne vs.toArray) (by rw [List.size_toArray, hD.length]) (fun i v d hp hd => ?_) (fun b hb => ?_) (fun b hb => hb) (fun i h st b hb => ?_) fun A i s Q E st hQ => wpAny_pyIter_listiter st.1 hQ
  · obtain ⟨u, h1, h2⟩ := datAll_get? hD hd
    have : u = v := by simpa [h1] using hp
    exact this ▸ h2
  · rcases List.mem_cons.mp hb with q | q
    · exact .inl (q ▸ .head _)
    · exact .inr (mem1 q ▸ List.mem_map.mpr ⟨_, hm, rfl⟩)
  · obtain ⟨o, ho, _, hd⟩ := st.1
    rw [mem1 hb]
    exact ⟨o, ho, xob_fields hd⟩
theorem ItJ.tup (h : EvJ C ρ e (.dat (.tuple ds))) : ItJ C ρ (.Name x px) e (ds.map fun d ρ => (x, .dat d) :: ρ) := fun X Φ f s H => by
  refine wpAny_mono (h X Φ f s H) (fun v s1 ⟨Φ1, g1, H1, i1⟩ => ?_) fun zz1 zz2 f => f
  obtain ⟨l, vs, n, rfl, hm, hD⟩ := DatIn.tupInv i1
  have ho := H1.led _ hm
  have hL : s1.heap.IsTuple l vs.toArray := ⟨_, ho, rfl, _, rfl⟩
  refine wpAny_pyIter_tuple hL ?_
  have hne : l ≠ s1.heap.objs.size := Nat.ne_of_lt (Heap.lt_size ho)
  obtain ⟨Xi, e, H2⟩ := AtM.xput H1 (h' := s1.heap.push { cls := .type "tuple_iterator", data := .fields #[.ref l, .int 0 0] }) (tk := s1.toks) (fun b o q => Heap.get?_push_of_some _ q) (ax := [s1.heap.objs.size]) (by simp)
    fun b hb => by rw [mem1 hb]; exact ⟨Heap.get?_none_of_le (Nat.le_refl _), _, Heap.get?_push_size _ rfl, xob_fields rfl⟩
  refine ⟨s1.heap.objs.size, [s1.heap.objs.size, l], [s1.heap.objs.size], [s1.heap.objs.size], fun i h => h.IsTupleIter s1.heap.objs.size l i ∧ h.IsTuple l vs.toArray, Φ1, Xi, rfl, g1, e, H2,
    ⟨⟨_, Heap.get?_push_size _ rfl, rfl, rfl⟩, ⟨_, Heap.get?_push_of_some _ ho, rfl, _, rfl⟩⟩, ?_⟩
  refine Walker.of (n := vs.toArray.size) (Pd := fun i v => vs.toArray[i]? = some v) (fun A hA => Walks.tuple hA _ l hne vs.toArray) (by rw [List.size_toArray, hD.length]) (fun i v d hp hd => ?_) (fun b hb => ?_) (fun b hb => hb) (fun i h st b hb => ?_) fun A i s Q E st hQ => wpAny_pyIter_tupleiter st.1 hQ
  · obtain ⟨u, h1, h2⟩ := datAll_get? hD hd
    have : u = v := by simpa [h1] using hp
    exact this ▸ h2
  · rcases List.mem_cons.mp hb with q | q
    · exact .inl (q ▸ .head _)
    · exact .inr (mem1 q ▸ List.mem_map.mpr ⟨_, hm, rfl⟩)
  · obtain ⟨o, ho, _, hd⟩ := st.1
    rw [mem1 hb]
    exact ⟨o, ho, xob_fields hd⟩
theorem rangeIt {a n : Nat} {r : Addr} {t u v : Tok} {f : Fm} (H : AtF C X Φ ρ f s) (hr : IsRange s.heap r (a : Int) (n : Int) 1 t u v) (ha : a ≤ 1000000) (hn : n ≤ 1000000) :
    wpAny (model P C.w) C.A (pyIter (.ref r)) (GotI C X Φ ρ f (.Name x px) ((List.range (n - a)).map fun i ρ => (x, .dat (.int (a + i : Nat))) :: ρ)) (fun zz1 zz2 => False) s := by
  have hsz : Builtin.Range.rangeSize (a : Int) (n : Int) 1 = ((n - a : Nat) : Int) := by
    unfold Builtin.Range.rangeSize
    simp
    split <;> omega
  refine wpAny_pyIter_range hr (by unfold Builtin.Range.small; rw [hsz]; simp [Builtin.Range.rangeFitsLong]; omega) ?_
  rw [hsz]
  obtain ⟨Xi, e, H2⟩ := AtM.xput H (h' := s.heap.push { cls := .type "range_iterator", data := .fields #[rawInt (a : Int), rawInt ((n - a : Nat) : Int), rawInt 1] }) (tk := s.toks) (fun b o q => Heap.get?_push_of_some _ q) (ax := [s.heap.objs.size]) (by simp)
    fun b hb => by rw [mem1 hb]; exact ⟨Heap.get?_none_of_le (Nat.le_refl _), _, Heap.get?_push_size _ rfl, xob_fields rfl⟩
  refine ⟨s.heap.objs.size, [s.heap.objs.size], [s.heap.objs.size], [s.heap.objs.size], fun i h => IsRangeIter h s.heap.objs.size ((a : Int) + (i : Nat) * 1) (((n - a : Nat) : Int) - (i : Nat)) 1, Φ, Xi, rfl, fun zz1 h => h, e, H2, by simpa [IsRangeIter] using Heap.get?_push_size _ rfl, ?_⟩
  rw [show ((List.range (n - a)).map fun i (ρ : Loc) => ((x, AV.dat (.int (a + i : Nat))) :: ρ : Loc)) = ((List.range (n - a)).map fun i => Dat.int (a + i : Nat)).map fun d (ρ : Loc) => ((x, AV.dat d) :: ρ : Loc) from by rw [List.map_map]; rfl]
  refine Walker.of (n := n - a) (Pd := fun i v => ∃ t, v = .int ((a : Int) + i * 1) t) (fun A hA => Walks.range hA _ (a : Int) 1 (n - a)) (by simp) (fun i v d hp hd => ?_) (fun b hb => .inl hb) (fun b hb => hb) (fun i h st b hb => ?_) fun A i s Q E st hQ => ?_
  · obtain ⟨t, rfl⟩ := hp
    rw [List.getElem?_map] at hd
    obtain ⟨j, hj, rfl⟩ := Option.map_eq_some_iff.mp hd
    have : j = i := by
      obtain ⟨h1, h2⟩ := List.getElem?_eq_some_iff.mp hj
      simpa using h2.symm
    subst this
    rw [Int.mul_one, show ((a : Int) + (j : Int)) = ((a + j : Nat) : Int) from by push_cast; rfl]
    exact .int _ _
  · rw [mem1 hb]
    exact ⟨_, st, xob_fields rfl⟩
  · exact wpAny_pyIter_rangeiter st hQ
theorem ItJ.range {n : Nat} (h : EvJ C ρ e (.dat (.int n))) (hn : n ≤ 1000000) (hk : C.env.kindOf "range" = some .globalImplicit := by rfl) (hs : starEach [e] C.env = [(false, eval e C.env)] := by rfl) :
    ItJ C ρ (.Name x px) (.Call (.Name "range" np) [e] [] cp) ((List.range n).map fun i ρ => (x, .dat (.int (i : Nat))) :: ρ) := fun X Φ f s H => by
  refine Call_Name1 (biGo H (by decide +kernel) (by rfl) ?_ hk) hs
  refine PySem.callWith_type1 (wpAny_mono (h X Φ f s H) (fun v s1 ⟨Φ1, g1, H1, i1⟩ => ?_) fun zz1 zz2 f => f)
  obtain ⟨t, rfl⟩ : ∃ t, v = .int n t := by cases i1; exact ⟨_, rfl⟩
  refine call_range_1 ?_
  have := rangeIt (x := x) (px := px) (a := 0) (n := n) (H1.garbage { cls := .type "range", data := .fields #[.int 0 s1.toks, .int n t, .int 1 (s1.toks + 1)] } (s1.toks + 1 + 1)) (IsRange.new _ _ _ _ _ _ _) (by omega) hn
  simp only [Nat.zero_add, Nat.sub_zero] at this
  exact wpAny_mono this (fun it s2 h => h.up g1) fun zz1 zz2 f => f
theorem ItJ.range2 {a n : Nat} {e2 : Expr} (h0 : EvJ C ρ e (.dat (.int a))) (h : EvJ C ρ e2 (.dat (.int n))) (ha : a ≤ 1000000) (hn : n ≤ 1000000) (hk : C.env.kindOf "range" = some .globalImplicit := by rfl) (hs : backTo cp (starEach [e, e2] C.env) = [(false, eval e C.env), (false, eval e2 C.env)] := by rfl) :
    ItJ C ρ (.Name x px) (.Call (.Name "range" np) [e, e2] [] cp) ((List.range (n - a)).map fun i ρ => (x, .dat (.int (a + i : Nat))) :: ρ) := fun X Φ f s H => by
  refine Call_Name hs (biGo H (by decide +kernel) (by rfl) ?_ hk)
  refine PyProof.Rows.callWith_type rfl (Calls.evalArgs_plain (Calls.spliced_cons ?_))
  refine wpAny_mono (h0 X Φ f s H) (fun v s1 ⟨Φ1, g1, H1, i1⟩ => Calls.spliced_cons ?_) fun zz1 zz2 f => f
  obtain ⟨t, rfl⟩ : ∃ t, v = .int a t := by cases i1; exact ⟨_, rfl⟩
  refine wpAny_mono (h X Φ1 f s1 H1) (fun v s2 ⟨Φ2, g2, H2, i2⟩ => Calls.spliced_nil ?_) fun zz1 zz2 f => f
  obtain ⟨u, rfl⟩ : ∃ t, v = .int n t := by cases i2; exact ⟨_, rfl⟩
  refine call_range_2 ?_
  have := rangeIt (x := x) (px := px) (a := a) (n := n) (H2.garbage { cls := .type "range", data := .fields #[.int a t, .int n u, .int 1 s2.toks] } (s2.toks + 1)) (IsRange.new _ _ _ _ _ _ _) (by omega) hn
  exact wpAny_mono this (fun it s3 h => (h.up g2).up g1) fun zz1 zz2 f => f
end
end Mine
end
section
open PySem PySem.W PySem.Calls PyProof.Rows PyProof.V
namespace Mine

noncomputable def normStep (r : List Nat) (acc : List (List Nat)) (c : List Nat) : List (List Nat) :=
  if c = [] ∨ c = [46] then acc
  else if c ≠ [46, 46] ∨ (r = [] ∧ acc = []) ∨ acc.getLast? = some [46, 46] then acc ++ [c]
  else acc.dropLast
noncomputable def normL (l : List Nat) : List Nat :=
  if l = [] then [46]
  else
    let p := (splitrootL l).1 ++ joinL 47 ((splitL 47 (splitrootL l).2).foldl (normStep (splitrootL l).1) [])
    if p = [] then [46] else p

theorem splitL_mem (c : Nat) : ∀ (l : List Nat), ∀ x ∈ splitL c l, x.length ≤ l.length
  | [], x, h => by
    have : x = [] := by simpa [splitL] using h
    simp [this]
  | a :: r, x, h => by
    have ih := splitL_mem c r
    unfold splitL at h
    split at h
    · rcases List.mem_cons.mp h with rfl | h
      · simp
      · have := ih x h; simp; lia
    · split at h
      · have : x = [a] := by simpa using h
        simp [this]
      · rename_i y ys e
        rcases List.mem_cons.mp h with rfl | h
        · have := ih y (by rw [e]; exact .head _); simp; lia
        · have := ih x (by rw [e]; exact .tail _ h); simp; lia
theorem normStep_mem {r : List Nat} {acc : List (List Nat)} {c : List Nat} {x : List Nat} (h : x ∈ normStep r acc c) : x ∈ acc ∨ x = c := by
  unfold normStep at h
  split at h
  · exact .inl h
  · split at h
    · rcases List.mem_append.mp h with h | h
      · exact .inl h
      · exact .inr (by simpa using h)
    · exact .inl (List.dropLast_subset _ h)
theorem normStep_len {r : List Nat} {acc : List (List Nat)} {c : List Nat} : (normStep r acc c).length ≤ acc.length + 1 := by
  unfold normStep
  split
  · lia
  · split
    · simp
    · simp; lia
theorem normFold {r : List Nat} : ∀ (cs acc : List (List Nat)), (∀ x ∈ cs.foldl (normStep r) acc, x ∈ acc ∨ x ∈ cs) ∧ (cs.foldl (normStep r) acc).length ≤ acc.length + cs.length
  | [], acc => ⟨fun x h => .inl h, by simp⟩
  | c :: cs, acc => by
    obtain ⟨h1, h2⟩ := normFold cs (normStep r acc c)
    refine ⟨fun x h => ?_, ?_⟩
    · rcases h1 x h with h | h
      · rcases normStep_mem h with h | h
        · exact .inl h
        · exact .inr (by simp [h])
      · exact .inr (.tail _ h)
    · have := normStep_len (r := r) (acc := acc) (c := c)
      simp only [List.foldl_cons, List.length_cons]; lia

section
variable {C : Cx} {ρ : Loc} {x : Str} {pos px : Pos} {ds : List Dat} {e : Expr} {d : Dat}
theorem EvJ.ownLast2 (hx : ρ.lookup x = some (.own ds)) (hl : ds.getLast? = some d) (hi : EvJ C ρ e (.dat (.int (-1))))
    (hs : ∀ a b u, subscripted e false (.ref a) (.int b u) = operate [.ref a, .int b u] (getItem (.ref a) (.int b u)) := by intro a b u; with_unfolding_all rfl)
    (hd : (x == ("__debug__" : Str)) = false := by decide) (hc : (x == ("__classdict__" : Str)) = false := by decide) : EvJ C ρ (.Subscript (.Name x px) e pos) (.dat d) := by
  obtain ⟨es, rfl⟩ := List.getLast?_eq_some_iff.mp hl
  exact EvJ.ownLast hx hi hs hd hc
theorem TvJ.as {t u : Bool} (h : TvJ C ρ e t) (he : t = u) : TvJ C ρ e u := he ▸ h
theorem SxJ.popLast {Q : Out → Prop} {ap cp : Pos} (hx : ρ.lookup x = some (.own ds)) (hne : ds ≠ []) (hz : ds.length ≤ 1000000) (hq : Q (.next ((x, .own ds.dropLast) :: ρ))) (hl : (ap.endLine == cp.line) = true := by rfl)
    (hd : (x == ("__debug__" : Str)) = false := by decide) (hc : (x == ("__classdict__" : Str)) = false := by decide) :
    SxJ C ρ (.Expr (.Call (.Attribute (.Name x px) "pop" ap) [] [] cp) pos) Q := by
  have e := List.dropLast_concat_getLast hne
  exact SxJ.pop (ds := ds.dropLast) (d := ds.getLast hne) (by rw [e]; exact hx) (by simp; lia) hq hl hd hc
end

theorem joinL_len {B : Nat} {xs : List (List Nat)} : (∀ x ∈ xs, x.length ≤ B) → (joinL 47 xs).length ≤ xs.length * (B + 1) := by
  induction xs with
  | nil => exact fun zz1 => Nat.zero_le _
  | cons x r ih =>
    intro h
    have h1 := h x (.head _)
    cases r with
    | nil => show x.length ≤ 1 * (B + 1); lia
    | cons y r =>
      have h2 := ih fun z hz => h z (.tail _ hz)
      show (x ++ 47 :: joinL 47 (y :: r)).length ≤ ((y :: r).length + 1) * (B + 1)
      rw [List.length_append, List.length_cons, Nat.add_mul, Nat.one_mul]
      lia
theorem mapGet {xs : List (List Nat)} {i : Nat} (h : i < xs.length) : (xs.map DS)[((i : Nat) : Int).toNat]? = some (DS xs[i]) := by
  rw [Int.toNat_natCast, List.getElem?_map, List.getElem?_eq_getElem h]; rfl
theorem lenD {xs : List (List Nat)} {i : Nat} (h : xs.length ≤ i) : (xs.map DS).length ≤ i := by rw [List.length_map]; exact h
theorem mapSnoc {M : List (List Nat)} {x : List Nat} : M.map DS ++ [DS x] = (M ++ [x]).map DS := by rw [List.map_append]; rfl
theorem ownEq {es ds : List Dat} (h : es = ds) : some (AV.own es) = some (AV.own ds) := h ▸ rfl
section
variable {r c : List Nat} {a : List (List Nat)}
theorem ns_skip (h : c = [] ∨ c = [46]) : normStep r a c = a := if_pos h
theorem ns_push (h : ¬ (c = [] ∨ c = [46])) (h1 : c ≠ [46, 46] ∨ (r = [] ∧ a = []) ∨ a.getLast? = some [46, 46]) : normStep r a c = a ++ [c] := by rw [normStep, if_neg h, if_pos h1]
theorem ns_pop (h : ¬ (c = [] ∨ c = [46])) (h1 : ¬ (c ≠ [46, 46] ∨ (r = [] ∧ a = []) ∨ a.getLast? = some [46, 46])) : normStep r a c = a.dropLast := by rw [normStep, if_neg h, if_neg h1]
theorem nt : ∀ p q s t : Bool, (s = true → t = false) → ((!p) || (!(!q) && (!!s && true) || (!s && t || false))) = ((!p) || (q && s || t)) := by decide
theorem ns_test : (decide (c ≠ [46, 46]) || (!decide (r ≠ []) && (!!decide (a = []) && true) || (!decide (a = []) && decide (a.getLast? = some [46, 46]) || false))) = decide (c ≠ [46, 46] ∨ (r = [] ∧ a = []) ∨ a.getLast? = some [46, 46]) := by
  rw [Bool.decide_or, Bool.decide_or, Bool.decide_and, decide_not, decide_not]
  refine nt _ _ _ _ fun h => decide_eq_false ?_
  rw [of_decide_eq_true h]; nofun
theorem sr_len (l : List Nat) : (splitrootL l).1.length ≤ 2 ∧ (splitrootL l).2.length ≤ l.length := by
  unfold splitrootL
  split <;> simp
  lia
end
theorem j_normpath (l : List Nat) (hz : l.length ≤ 900) : FnJ "normpath" 3 [DS l] (.dat (DS (normL l))) := by
  refine FnJ.intro (ns := ["path"]) (pr := parsOf "normpath") (bd := bodyOf "normpath") (sc := scopeOf "normpath") (by rfl) (by decide +kernel) (fun doc pm an cd ct => len1 fun a => rfl) rfl (by decide +kernel) (by decide +kernel) (by decide +kernel) ?_
  intro p hh
  refine ExJ.cons (SxJ.assign (EvJ.callL (j_fspath l) hh (.cons (EvJ.name rfl) .nil)) (.loc rfl) ?_)
  refine ExJ.cons (SxJ.ifs (TvJ.val (EvJ.isBytes (EvJ.name rfl)) tr_bool) (fun h => by cases h) fun h => ?_)
  refine ExJ.cons (SxJ.assign EvJ.strC (.loc rfl) ?_)
  refine ExJ.cons (SxJ.assign EvJ.strC (.loc rfl) ?_)
  refine ExJ.cons (SxJ.assign EvJ.strC (.loc rfl) ?_)
  refine ExJ.nil ?_
  refine ExJ.cons (SxJ.ifs (TvJ.notT (TvJ.val (EvJ.name rfl) (tr_str (x := l) (by lia)))) (fun h => ?_) fun h => ?_)
  · refine ExJ.cons (SxJ.ret (EvJ.name rfl) ?_)
    have : l = [] := by simpa using h
    simp only [RetIs, normL, if_pos this]
    rfl
  have hne : l ≠ [] := by simpa using h
  refine ExJ.nil ?_
  have hsr := sr_len l
  refine ExJ.cons (SxJ.unpack (EvJ.callL (j_splitroot l (by lia)) hh (.cons (EvJ.name rfl) .nil)) hh rfl rfl (kept_all (by rfl)) ?_)
  generalize hr : (splitrootL l).1 = r at hsr ⊢
  generalize ht : (splitrootL l).2 = t at hsr ⊢
  refine ExJ.cons (SxJ.assign (EvJ.meth1 (EvJ.name rfl) (EvJ.name rfl) (meth_split 47 (l := t) (by lia))) (.loc rfl) ?_)
  refine ExJ.cons (SxJ.assignNil (.loc rfl) ?_)
  generalize hcs : splitL 47 t = cs
  have hcl : cs.length ≤ 901 := by have := splitL_len 47 t; rw [hcs] at this; lia
  have hcm : ∀ x ∈ cs, x.length ≤ 900 := fun x hx => by have := splitL_mem 47 t x (hcs ▸ hx); lia
  let acc : Nat → List (List Nat) := fun i => (cs.take i).foldl (normStep r) []
  have hacc : ∀ i, (∀ x ∈ acc i, x ∈ cs) ∧ (acc i).length ≤ 901 := fun i => by
    obtain ⟨h1, h2⟩ := normFold (r := r) (cs.take i) []
    refine ⟨fun x hx => ?_, ?_⟩
    · rcases h1 x hx with h | h
      · cases h
      · exact List.mem_of_mem_take h
    · simp at h2; show _ ≤ _; exact Nat.le_trans h2 (by lia)
  refine ExJ.cons (SxJ.forE (ItJ.list (EvJ.name rfl)) hh (fun ns e => by cases e; exact kept_all (by rfl))
    (fun i => [("sep", .dat (DS [47])), ("dot", .dat (DS [46])), ("dotdot", .dat (DS [46, 46])), ("initial_slashes", .dat (DS r)), ("new_comps", .own ((acc i).map DS))])
    (.cons rfl (.cons rfl (.cons rfl (.cons rfl (.cons rfl .nil))))) (fun i g hg => ?_) ?_)
  · rw [List.map_map, List.getElem?_map] at hg
    obtain ⟨c, hc, rfl⟩ := Option.map_eq_some_iff.mp hg
    have hcz : c.length ≤ 900 := hcm c (List.mem_of_getElem? hc)
    have hst : acc (i + 1) = normStep r (acc i) c := by
      show (cs.take (i + 1)).foldl _ _ = _
      rw [List.take_add_one, hc, List.foldl_append]
      rfl
    have hal := (hacc i).2
    have hal2 : ((acc i).map DS).length ≤ 901 := lenD hal
    rw [hst]
    generalize acc i = a at hal hal2 ⊢
    refine ExJ.cons (SxJ.ifs (TvJ.orT (TvJ.notT (TvJ.val (EvJ.name rfl) (tr_str (x := c) (by lia)))) fun zz1 => TvJ.orT (TvJ.cmp (EvJ.name rfl) (EvJ.name rfl) (op_eqS (x := c) (y := [46]))) fun zz1 => .orNil) (fun h => ?_) fun h => ?_)
    · have h' : c = [] ∨ c = [46] := by simpa using h
      refine ExJ.cons (SxJ.cont ?_)
      rw [ns_skip h']
      exact .cons rfl (.cons rfl (.cons rfl (.cons rfl (.cons rfl .nil))))
    · have h' : ¬ (c = [] ∨ c = [46]) := by simpa using h
      refine ExJ.nil ?_
      refine ExJ.cons (SxJ.ifs (t := decide (c ≠ [46, 46] ∨ (r = [] ∧ a = []) ∨ a.getLast? = some [46, 46])) ?_ (fun h => ?_) fun h => ?_)
      · refine TvJ.as (TvJ.orT (TvJ.cmp (EvJ.name rfl) (EvJ.name rfl) (op_neS (x := c) (y := [46, 46]))) fun zz1 => TvJ.orT (TvJ.andT (TvJ.notT (TvJ.val (EvJ.name rfl) (tr_str (x := r) (by lia)))) fun zz1 => TvJ.andT (TvJ.notT (TvJ.own rfl (by lia))) fun zz1 => .andNil)
          fun zz1 => TvJ.orT (TvJ.andT (u := decide (a.getLast? = some [46, 46])) (TvJ.own rfl (by lia)) fun hn => ?_) fun zz1 => .orNil) ?_
        · have hn' : a ≠ [] := by simpa using hn
          obtain ⟨b, hb⟩ : ∃ b, a.getLast? = some b := ⟨_, List.getLast?_eq_some_getLast hn'⟩
          refine TvJ.as (TvJ.andT (TvJ.cmp (EvJ.ownLast2 (d := DS b) rfl (by rw [List.getLast?_map, hb]; rfl) (EvJ.unop EvJ.intC op_usub)) (EvJ.name rfl) (op_eqS (x := b) (y := [46, 46]))) fun zz1 => .andNil) ?_
          rw [hb, Bool.and_true]
          exact decide_eq_decide.mpr ⟨fun e => e ▸ rfl, fun e => Option.some.inj e⟩
        · have h4 : (List.map DS a).isEmpty = decide (a = []) := by cases a <;> rfl
          rw [h4]
          exact ns_test
      · have h1 := of_decide_eq_true h
        refine ExJ.cons (SxJ.append rfl (EvJ.name rfl) (by lia) ?_)
        rw [ns_push h' h1]
        refine ExJ.nil (ExJ.nil ?_)
        exact .cons rfl (.cons rfl (.cons rfl (.cons rfl (.cons (ownEq mapSnoc) .nil))))
      · have h1 := of_decide_eq_false h
        refine ExJ.cons (SxJ.ifs (TvJ.own rfl (by lia)) (fun h2 => ?_) fun h2 => ?_)
        · refine ExJ.cons (SxJ.popLast rfl (by simpa using h2) (by lia) ?_)
          rw [ns_pop h' h1]
          refine ExJ.nil (ExJ.nil (ExJ.nil ?_))
          exact .cons rfl (.cons rfl (.cons rfl (.cons rfl (.cons (ownEq List.map_dropLast.symm) .nil))))
        · have h3 : a = [] := by simpa using h2
          rw [ns_pop h' h1]
          subst h3
          refine ExJ.nil (ExJ.nil (ExJ.nil ?_))
          exact .cons rfl (.cons rfl (.cons rfl (.cons rfl (.cons rfl .nil))))
  · simp only [List.length_map]
    have hN := hacc cs.length
    have hNf : acc cs.length = cs.foldl (normStep r) [] := by show (cs.take cs.length).foldl _ _ = _; rw [List.take_length]
    rw [hNf] at hN ⊢
    generalize hA : cs.foldl (normStep r) [] = A at hN ⊢
    refine ExJ.freeze (x := "new_comps") rfl ?_
    refine ExJ.cons (SxJ.assign (EvJ.name rfl) (.loc rfl) ?_)
    have hjl : (joinL 47 A).length ≤ 900000 := by
      have := joinL_len fun x hx => hcm x (hN.1 x hx)
      lia
    refine ExJ.cons (SxJ.assign (EvJ.binop (EvJ.name rfl) (EvJ.meth1 (EvJ.name rfl) (EvJ.name rfl) (meth_join 47 (xs := A) (fun x hx => by have := hcm x (hN.1 x hx); lia) (by lia))) (op_addS (x := r) (y := joinL 47 A) (by lia))) (.loc rfl) ?_)
    refine ExJ.cons (SxJ.ret (av := .dat (DS (normL l))) (EvJ.orE (t := decide (r ++ joinL 47 A ≠ [])) (EvJ.name rfl) (tr_str (x := r ++ joinL 47 A) (by rw [List.length_append]; lia)) (fun h => ?_) (fun h => ?_)) rfl)
    · have h1 : r ++ joinL 47 A = [] := by simpa using h
      refine .oneE ?_
      have : normL l = [46] := by
        simp only [normL, if_neg hne, hr, ht, hcs, hA]
        rw [if_pos h1]
      rw [this]
      exact EvJ.name rfl
    · have h1 : r ++ joinL 47 A ≠ [] := of_decide_eq_true h
      have : normL l = r ++ joinL 47 A := by
        simp only [normL, if_neg hne, hr, ht, hcs, hA]
        rw [if_neg h1]
      rw [this]
end Mine
end
section
open PySem PySem.W PySem.Calls PyProof.Rows PyProof.V
namespace Mine

section
variable {C : Cx} {X Xi Φ Φ' : Led} {ρ ρ' : Loc} {pos : Pos} {e : Expr} {Q : Out → Prop} {body : List Stmt}

inductive WhileI (C : Cx) (X Φ : Led) (I : Nat → Loc → Prop) (n : Nat) (s' : Shared) : Prop
  | mk (ρ : Loc) (Φ' : Led) (f' : Fm) (g : ∀ p ∈ Φ, p ∈ Φ') (hI : I n ρ) (H : AtF C X Φ' ρ f' s') : WhileI C X Φ I n s'
theorem SxJ.whileE (I : Nat → Loc → Prop) {n : Nat} {ρ₀ : Loc} (h0 : I n ρ₀) (hs : ρ₀.Sub ρ)
    (turn : ∀ n ρ, I n ρ → ∃ b, TvJ C ρ e b ∧ (b = true → ExJ C ρ body (fun o => match o with | .next ρ' => ∃ m ρ₁, m < n ∧ I m ρ₁ ∧ ρ₁.Sub ρ' | .cont ρ' => ∃ m ρ₁, m < n ∧ I m ρ₁ ∧ ρ₁.Sub ρ' | .brk ρ' => Q (.next ρ') | .ret av => Q (.ret av) | .exc _ _ => False)) ∧ (b = false → Q (.next ρ))) :
    SxJ C ρ (.While e body [] pos) Q := fun X Φ f s H => by
  refine wpAny_While ?_
  refine codeAny_whileLoop (WhileI C X Φ I) ?_ n ⟨ρ₀, Φ, f, fun zz1 h => h, h0, AtM.sub H hs⟩
  rintro n s1 ⟨ρ1, Φ1, f1, g1, hI, H1⟩
  obtain ⟨b, ht, hb1, hb0⟩ := turn n ρ1 hI
  refine ff (wpAny_mono (ht X Φ1 f1 s1 H1) (fun v s2 ⟨e2, Φ2, g2, H2⟩ => ?_) fun zz1 zz2 f => f)
  subst e2
  cases v with
  | false => exact wpAny_execs_nil ⟨Φ2, .next _, fun p hp => g2 p (g1 p hp), hb0 rfl, ⟨f1, H2⟩⟩
  | true =>
    refine wpAny_mono (hb1 rfl X Φ2 f1 s2 H2) (fun fl s3 hd => ?_) fun e s3 hd => ?_
    · obtain ⟨Φ3, o, g3, hq3, hi3⟩ := hd
      cases hi3.got
      · obtain ⟨m, ρ4, hm, hI4, hsub⟩ := hq3
        obtain ⟨f3, H3⟩ := hi3
        exact ⟨m, hm, ρ4, Φ3, f3, fun p hp => g3 p (g2 p (g1 p hp)), hI4, AtM.sub H3 hsub⟩
      · exact ⟨Φ3, .next _, fun p hp => g3 p (g2 p (g1 p hp)), hq3, hi3⟩
      · obtain ⟨m, ρ4, hm, hI4, hsub⟩ := hq3
        obtain ⟨f3, H3⟩ := hi3
        exact ⟨m, hm, ρ4, Φ3, f3, fun p hp => g3 p (g2 p (g1 p hp)), hI4, AtM.sub H3 hsub⟩
      · exact ⟨Φ3, .ret _, fun p hp => g3 p (g2 p (g1 p hp)), hq3, hi3⟩
    · obtain ⟨_, _, _, _, _, q, _⟩ := hd
      exact q.elim
end

noncomputable def apL : Nat → List UInt8
  | 0 => []
  | n + 1 => apL ((n + 1) / 16) ++ [UInt8.ofNat (65 + (n + 1) % 16)]
termination_by n => n
decreasing_by lia
theorem apL_len : ∀ n k, n < 16 ^ k → (apL n).length ≤ k
  | 0, k, h => by unfold apL; simp
  | n + 1, 0, h => by simp at h
  | n + 1, k + 1, h => by
    unfold apL
    have : (n + 1) / 16 < 16 ^ k := by rw [Nat.pow_succ] at h; lia
    have := apL_len ((n + 1) / 16) k this
    simp; lia
theorem apL_small : ∀ n, ∀ b ∈ apL n, b.toNat < 128
  | 0, b, h => by unfold apL at h; simp at h
  | n + 1, b, h => by
    unfold apL at h
    rcases List.mem_append.mp h with h | h
    · exact apL_small _ b h
    · have : b = UInt8.ofNat (65 + (n + 1) % 16) := by simpa using h
      rw [this, UInt8.toNat_ofNat']
      lia
termination_by n => n
decreasing_by lia

theorem tr_bytes {l : List UInt8} (hz : l.length ≤ 1000) : Tr (DB l) (decide (l ≠ [])) := fun C X Φ ρ f s v1 H h1 => by
  cases h1
  refine truthy_bytes (by simp; lia) ⟨?_, Φ, fun zz1 h => h, H.toks _⟩
  cases l <;> simp
  lia
theorem AP_pick {d : Nat} (h : d < 16) : (([65, 66, 67, 68, 69, 70, 71, 72, 73, 74, 75, 76, 77, 78, 79, 80] : List UInt8).drop d).take 1 = [UInt8.ofNat (65 + d)] := by
  have : ∀ d : Fin 16, (([65, 66, 67, 68, 69, 70, 71, 72, 73, 74, 75, 76, 77, 78, 79, 80] : List UInt8).drop d.1).take 1 = [UInt8.ofNat (65 + d.1)] := by decide
  exact this ⟨d, h⟩

theorem j_ap (n : Nat) (hz : n < 16 ^ 600) : FnJ "Int2AP" 1 [.int n] (.dat (DB (apL n))) := by
  refine FnJ.intro (ns := ["num"]) (pr := parsOf "Int2AP") (bd := bodyOf "Int2AP") (sc := scopeOf "Int2AP") (by rfl) (by decide +kernel) (fun doc pm an cd ct => len1 fun a => rfl) rfl (by decide +kernel) (by decide +kernel) (by decide +kernel) ?_
  intro p hh
  refine ExJ.cons (SxJ.assign EvJ.bytesC (.loc rfl) ?_)
  refine ExJ.cons (SxJ.assign EvJ.bytesC (.loc rfl) ?_)
  refine ExJ.cons (SxJ.assign (EvJ.callB bi_int hh (.cons (EvJ.callB bi_abs hh (.cons (EvJ.name rfl) .nil)) .nil)) (.loc rfl) ?_)
  rw [if_neg (by lia)]
  refine ExJ.cons (SxJ.whileE (fun m ρ => ∃ t : List UInt8, m < 16 ^ 600 ∧ apL m ++ t = apL n ∧ ρ = ([("num", .dat (.int m)), ("val", .dat (DB t)), ("AP", .dat (DB [65, 66, 67, 68, 69, 70, 71, 72, 73, 74, 75, 76, 77, 78, 79, 80]))] : Loc)) (n := n) ⟨[], hz, by simp, rfl⟩ (.cons rfl (.cons rfl (.cons rfl .nil))) ?_)
  rintro m ρ ⟨t, hm, ht, rfl⟩
  have hal : (apL n).length ≤ 600 := apL_len n 600 hz
  have htl : t.length ≤ 600 := by have := congrArg List.length ht; simp at this; lia
  refine ⟨decide (m ≠ 0), TvJ.as (TvJ.val (EvJ.name rfl) tr_int) (by rw [show ((m : Int) != 0) = ((m : Int) != ((0 : Nat) : Int)) from rfl, bneI]), fun h => ?_, fun h => ?_⟩
  · have h0 : m ≠ 0 := of_decide_eq_true h
    refine ExJ.cons (SxJ.unpack (EvJ.callB (bi_divmod (b := 16) (by decide) (PyProof.noPylong_small (by decide))) hh (.cons (EvJ.name rfl) (.cons EvJ.intC .nil))) hh rfl rfl (kept_all (by rfl)) ?_)
    have e1 : (m : Int).fdiv 16 = ((m / 16 : Nat) : Int) := fdivN m 16
    have e2 : (m : Int).fmod 16 = ((m % 16 : Nat) : Int) := fmodN m 16
    rw [e1, e2]
    have hd : m % 16 < 16 := Nat.mod_lt _ (by decide)
    have es : sl (some ((m % 16 : Nat) : Int)) (some (((m % 16 : Nat) : Int) + 1)) ([65, 66, 67, 68, 69, 70, 71, 72, 73, 74, 75, 76, 77, 78, 79, 80] : List UInt8) = [UInt8.ofNat (65 + m % 16)] := by
      rw [show (((m % 16 : Nat) : Int) + 1) = ((m % 16 + 1 : Nat) : Int) from by push_cast; rfl, sl_mid, show m % 16 + 1 - m % 16 = 1 from by lia]
      exact AP_pick hd
    refine ExJ.cons (SxJ.assign (EvJ.binop (EvJ.sliceB (EvJ.name rfl) (.some (EvJ.name rfl)) (.some (EvJ.binop (EvJ.name rfl) EvJ.intC op_add)) (by decide)) (EvJ.name rfl) (op_addBy (by rw [es]; simp; lia))) (.loc rfl) ?_)
    rw [es]
    refine ExJ.nil ?_
    refine ⟨m / 16, _, by lia, ⟨_, by lia, ?_, rfl⟩, .cons rfl (.cons rfl (.cons rfl .nil))⟩
    rw [← ht]
    obtain ⟨k, rfl⟩ := Nat.exists_eq_succ_of_ne_zero h0
    rw [show apL (k + 1) = apL ((k + 1) / 16) ++ [UInt8.ofNat (65 + (k + 1) % 16)] from by rw [apL]]
    simp
  · have h0 : m = 0 := by simpa using h
    subst h0
    have : t = apL n := by rw [← ht]; simp [apL]
    subst this
    exact ExJ.cons (SxJ.ret (EvJ.name rfl) rfl)
end Mine
end
section
open PySem PySem.W PySem.Calls PyProof.Rows PyProof.V
namespace Mine

theorem datAll_of {Φ : Led} : ∀ {vs : List Value} {ds : List Dat}, vs.length = ds.length → (∀ (j : Nat) (v : Value) (d : Dat), vs[j]? = some v → ds[j]? = some d → DatIn Φ v d) → DatAll Φ vs ds
  | [], [], _, _ => .nil
  | v :: vs, d :: ds, hl, h => .cons (h 0 v d rfl rfl) (datAll_of (by simpa using hl) fun j u e h1 h2 => h (j + 1) u e (by simpa using h1) (by simpa using h2))
  | [], _ :: _, hl, _ => by simp at hl
  | _ :: _, [], hl, _ => by simp at hl
theorem bi_listS {l : List Nat} (hz : l.length ≤ 1000000) : Bi (.type "list") [DS l] (.list (l.map fun c => DS [c])) := fun C X Φ ρ f s vs hh H h => by
  obtain ⟨v, rfl, h0⟩ := datAll1 h
  cases h0
  refine call_list_str hh _ _ (fun h' tk acc' c' k hS hacc => ?_) (by simp [sizeLine_eq]; lia)
  have G := H.keeps (s' := { s with heap := h', toks := tk }) k rfl rfl
  have hsz : acc'.toList.length = l.length := by rw [Array.length_toList, hacc.1]; simp
  refine ⟨(s.heap.objs.size, listOf acc'.toList.toArray c') :: Φ, fun zz1 hp => .tail _ hp, ?_, .list (.head _) (datAll_of (by simp [hsz]) fun j u d h1 h2 => ?_)⟩
  · refine H.grow (s' := { s with heap := h', toks := tk }) k (fun zz1 h => .tail _ h) (fun p hp => ?_) rfl rfl
    rcases List.mem_cons.mp hp with rfl | hp
    · exact .inr ⟨by simpa using hS, Heap.get?_none_of_le (Nat.le_refl _), _, _, rfl⟩
    · exact .inl hp
  · rw [List.getElem?_map] at h2
    obtain ⟨c, hc, rfl⟩ := Option.map_eq_some_iff.mp h2
    obtain ⟨c2, t, h3, rfl⟩ := hacc.2 j u (by simpa using h1)
    have : c2 = c := by
      have h4 : l[j]? = some c2 := by simpa using h3
      rw [h4] at hc; cases hc; rfl
    subst this
    exact .str _ _

noncomputable def lets : Nat → Nat → List Nat
  | 0, _ => []
  | k + 1, v => lets k (v / 16) ++ [65 + v % 16]
theorem lets_len : ∀ k v, (lets k v).length = k
  | 0, _ => rfl
  | k + 1, v => by simp [lets, lets_len k]
theorem ap_lets : ∀ k v, v < 16 ^ k → (apL (16 ^ k + v)).map UInt8.toNat = 66 :: lets k v
  | 0, v, h => by
    have : v = 0 := by simpa using h
    subst this
    simp [apL, lets]
  | k + 1, v, h => by
    have hp : 16 ^ (k + 1) + v ≠ 0 := by have := Nat.pow_pos (n := k + 1) (show 0 < 16 by decide); lia
    obtain ⟨j, hj⟩ := Nat.exists_eq_succ_of_ne_zero hp
    have e : apL (16 ^ (k + 1) + v) = apL ((16 ^ (k + 1) + v) / 16) ++ [UInt8.ofNat (65 + (16 ^ (k + 1) + v) % 16)] := by
      rw [hj, show apL (j + 1) = apL ((j + 1) / 16) ++ [UInt8.ofNat (65 + (j + 1) % 16)] from by rw [apL]]
    have e1 : (16 ^ (k + 1) + v) / 16 = 16 ^ k + v / 16 := by rw [Nat.pow_succ]; lia
    have e2 : (16 ^ (k + 1) + v) % 16 = v % 16 := by rw [Nat.pow_succ]; lia
    rw [e, e1, e2, List.map_append, ap_lets k (v / 16) (by rw [Nat.pow_succ] at h; lia)]
    have h3 : (UInt8.ofNat (65 + v % 16)).toNat = 65 + v % 16 := by rw [UInt8.toNat_ofNat']; lia
    simp only [List.map_cons, List.map_nil, h3, lets, List.cons_append]

noncomputable def Way.names (w : Way) : List (List Nat) := List.replicate w.up [46, 46] ++ (lets w.cnt w.val).map ([·])
noncomputable def Way.text (w : Way) : List Nat :=
  let t := List.replicate w.root 47 ++ joinL 47 w.names
  if t = [] then [46] else t
theorem names_len {w : Way} (h : w.Ok) : w.names.length ≤ 1000 := by
  obtain ⟨_, h2, h3, _⟩ := h
  simp [Way.names, lets_len]; lia
theorem names_mem {w : Way} : ∀ x ∈ w.names, x.length ≤ 2 := fun x hx => by
  rcases List.mem_append.mp hx with h | h
  · have := List.eq_of_mem_replicate h
    simp [this]
  · obtain ⟨c, _, rfl⟩ := List.mem_map.mp h
    simp
theorem j_names {w : Way} (hw : w.Ok) : FnJ "_law_names" 2 [dW w] (.dat (.list (w.names.map DS))) := by
  refine FnJ.intro (ns := ["way"]) (pr := parsOf "_law_names") (bd := bodyOf "_law_names") (sc := scopeOf "_law_names") (by rfl) (by decide +kernel) (fun doc pm an cd ct => len1 fun a => rfl) rfl (by decide +kernel) (by decide +kernel) (by decide +kernel) ?_
  intro p hh
  obtain ⟨h1, h2, h3, h4⟩ := hw
  have e16 : ((16 : Int)) ^ w.cnt = ((16 ^ w.cnt : Nat) : Int) := by push_cast; rfl
  have hlt : 16 ^ w.cnt + w.val < 16 ^ (w.cnt + 1) := by rw [Nat.pow_succ]; have := Nat.pow_pos (n := w.cnt) (show 0 < 16 by decide); lia
  have hlt2 : 16 ^ w.cnt + w.val < 16 ^ 600 := Nat.lt_of_lt_of_le hlt (Nat.pow_le_pow_right (by decide) (by lia))
  have hal := apL_len _ _ hlt
  have hne : apL (16 ^ w.cnt + w.val) ≠ [] := fun e => by have := ap_lets w.cnt w.val h4; rw [e] at this; cases this
  refine ExJ.cons (SxJ.ret (EvJ.binop (EvJ.binop (EvJ.listE (.cons EvJ.strC .nil)) (EvJ.itemT (d := .int w.up) (EvJ.name rfl) EvJ.intC (by decide) rfl (by decide)) (op_mulL (by lia)))
    (EvJ.callB (bi_listS (l := lets w.cnt w.val) (by rw [lets_len]; lia)) hh (.cons ?_ .nil)) (op_addL (by simp [lets_len]; lia))) ?_)
  · have es : sl (some 1) none ((apL (16 ^ w.cnt + w.val)).map UInt8.toNat) = lets w.cnt w.val := by
      rw [ap_lets w.cnt w.val h4]
      exact sl_drop 1 _
    rw [← es]
    refine EvJ.sliceS (EvJ.decode (l := apL (16 ^ w.cnt + w.val)) (EvJ.callL (j_ap _ hlt2) hh (.cons ?_ .nil)) (apL_small _) hne (by lia)) (.some EvJ.intC) .none (by simp; lia)
    rw [Int.natCast_add, ← e16]
    exact EvJ.binop (EvJ.binop EvJ.intC (EvJ.itemT (d := .int w.cnt) (EvJ.name rfl) EvJ.intC (by decide) rfl (by decide)) (op_pow (by lia) (by decide))) (EvJ.itemT (d := .int w.val) (EvJ.name rfl) EvJ.intC (by decide) rfl (by decide)) op_add
  · simp only [RetIs, Way.names, List.map_append, List.map_replicate, List.map_map]
    rfl
theorem j_text {w : Way} (hw : w.Ok) : FnJ "_law_text" 3 [dW w] (.dat (DS w.text)) := by
  refine FnJ.intro (ns := ["way"]) (pr := parsOf "_law_text") (bd := bodyOf "_law_text") (sc := scopeOf "_law_text") (by rfl) (by decide +kernel) (fun doc pm an cd ct => len1 fun a => rfl) rfl (by decide +kernel) (by decide +kernel) (by decide +kernel) ?_
  intro p hh
  have hnl := names_len hw
  have hjl := joinL_len (names_mem (w := w))
  have hr := hw.1
  refine ExJ.cons (SxJ.ret (av := .dat (DS w.text)) (EvJ.orE (a := DS (List.replicate w.root 47 ++ joinL 47 w.names)) (t := decide (List.replicate w.root 47 ++ joinL 47 w.names ≠ []))
    (EvJ.binop (EvJ.binop EvJ.strC (EvJ.itemT (d := .int w.root) (EvJ.name rfl) EvJ.intC (by decide) rfl (by decide)) (op_mulS (c := 47) (by lia))) (@EvJ.meth1 _ _ _ _ _ _ _ _ _ _ EvJ.strC (EvJ.callL (j_names hw) hh (.cons (EvJ.name rfl) .nil)) (meth_join 47 (fun x hx => by have := names_mem x hx; lia) (by lia)) rfl rfl rfl) (op_addS (by simp; lia)))
    (tr_str (by simp; lia)) (fun h => ?_) (fun h => ?_)) rfl)
  · have h1 : List.replicate w.root 47 ++ joinL 47 w.names = [] := by simpa using h
    have : w.text = [46] := by simp only [Way.text]; rw [if_pos h1]
    rw [this]
    exact .oneE EvJ.strC
  · have h1 : List.replicate w.root 47 ++ joinL 47 w.names ≠ [] := of_decide_eq_true h
    simp only [Way.text]; rw [if_neg h1]
end Mine
end
section
open PySem PySem.W PySem.Calls PyProof.Rows PyProof.V
namespace Mine

noncomputable def pieceL (f : Nat) : List Nat × Way :=
  if f < 16 then ([65 + f], ⟨0, 0, 1, f⟩)
  else if f < 22 then ([46, 46], ⟨0, 1, 0, 0⟩)
  else (List.replicate (23 - f) 46, ⟨0, 0, 0, 0⟩)
noncomputable def dP (p : List Nat × Way) : Dat := .tuple [DS p.1, dW p.2]
theorem j_piece {f : Nat} (hf : f < 24) : FnJ "_law_piece" 2 [.int f] (.dat (dP (pieceL f))) := by
  refine FnJ.intro (ns := ["figure"]) (pr := parsOf "_law_piece") (bd := bodyOf "_law_piece") (sc := scopeOf "_law_piece") (by rfl) (by decide +kernel) (fun doc pm an cd ct => len1 fun a => rfl) rfl (by decide +kernel) (by decide +kernel) (by decide +kernel) ?_
  intro p hh
  refine ExJ.cons (SxJ.ifs (TvJ.cmp (EvJ.name rfl) EvJ.intC op_ltI) (fun h => ?_) fun h => ?_)
  · have h1 : f < 16 := by have := of_decide_eq_true h; lia
    have e1 : (apL (16 + f)).map UInt8.toNat = [66, 65 + f] := by
      have := ap_lets 1 f (by lia)
      simp only [Nat.pow_one, lets, List.nil_append] at this
      rw [this, Nat.mod_eq_of_lt h1]
    have hal := apL_len (16 + f) 2 (by lia)
    have hne : apL (16 + f) ≠ [] := fun e => by rw [e] at e1; cases e1
    have es : sl (some 1) none ((apL (16 + f)).map UInt8.toNat) = [65 + f] := by rw [e1]; rfl
    have e2 : (16 + (f : Int)) = ((16 + f : Nat) : Int) := by push_cast; rfl
    refine ExJ.cons (SxJ.ret (EvJ.tupE (.cons (EvJ.sliceS (EvJ.decode (l := apL (16 + f)) (EvJ.callL (j_ap (16 + f) (Nat.lt_of_lt_of_le (by lia : 16 + f < 16 ^ 2) (Nat.pow_le_pow_right (by decide) (by decide)))) hh (.cons (e2 ▸ EvJ.binop EvJ.intC (EvJ.name rfl) op_add) .nil)) (apL_small _) hne (by lia)) (.some EvJ.intC) .none (by simp; lia))
      (.cons (EvJ.tupE (.cons EvJ.intC (.cons EvJ.intC (.cons EvJ.intC (.cons (EvJ.name rfl) .nil))))) .nil))) ?_)
    rw [es]
    simp only [RetIs, pieceL, if_pos h1, dP]
    rfl
  · have h1 : ¬ f < 16 := by have := of_decide_eq_false h; lia
    refine ExJ.nil (ExJ.cons (SxJ.ifs (TvJ.cmp (EvJ.name rfl) EvJ.intC op_ltI) (fun h => ?_) fun h => ?_))
    · have h2 : f < 22 := by have := of_decide_eq_true h; lia
      refine ExJ.cons (SxJ.ret (EvJ.tupE (.cons EvJ.strC (.cons (EvJ.tupE (.cons EvJ.intC (.cons EvJ.intC (.cons EvJ.intC (.cons EvJ.intC .nil))))) .nil))) ?_)
      simp only [RetIs, pieceL, if_neg h1, if_pos h2, dP]
      rfl
    · have h2 : ¬ f < 22 := by have := of_decide_eq_false h; lia
      have e3 : (23 : Int) - (f : Int) = ((23 - f : Nat) : Int) := by lia
      refine ExJ.nil (ExJ.cons (SxJ.ret (EvJ.tupE (.cons (EvJ.binop EvJ.strC (e3 ▸ EvJ.binop EvJ.intC (EvJ.name rfl) op_sub) (op_mulS (c := 46) (n := 23 - f) (by lia))) (.cons (EvJ.tupE (.cons EvJ.intC (.cons EvJ.intC (.cons EvJ.intC (.cons EvJ.intC .nil))))) .nil))) ?_))
      simp only [RetIs, pieceL, if_neg h1, if_neg h2, dP]
      rfl

noncomputable def Way.rank (w : Way) : Int :=
  if w.root = 2 then 3 else if w.root = 1 then (if w.cnt ≠ 0 then 4 else 2) else if w.cnt = 0 then 0 else if w.up ≠ 0 then 1 else 5
noncomputable def Way.key (w : Way) : List Int := [w.rank, if w.cnt ≠ 0 then -(w.up : Int) else w.up, (w.val * 16 ^ (24 - w.cnt) : Nat), w.cnt]
noncomputable def dK (k : List Int) : Dat := .tuple (k.map .int)
theorem j_key {w : Way} (hw : w.Ok) (hc : w.cnt ≤ 24) : FnJ "_law_key" 1 [dW w] (.dat (dK w.key)) := by
  refine FnJ.intro (ns := ["way"]) (pr := parsOf "_law_key") (bd := bodyOf "_law_key") (sc := scopeOf "_law_key") (by rfl) (by decide +kernel) (fun doc pm an cd ct => len1 fun a => rfl) rfl (by decide +kernel) (by decide +kernel) (by decide +kernel) ?_
  intro p hh
  obtain ⟨h1, h2, h3, h4⟩ := hw
  have e16 : ((16 : Int)) ^ (24 - w.cnt) = ((16 ^ (24 - w.cnt) : Nat) : Int) := by push_cast; rfl
  have e24 : (24 : Int) - (w.cnt : Int) = ((24 - w.cnt : Nat) : Int) := by lia
  refine ExJ.cons (SxJ.unpack (EvJ.name rfl) hh rfl rfl (kept_all (by rfl)) ?_)
  refine ExJ.cons (SxJ.assign EvJ.intC (.loc rfl) ?_)
  have fin : ∀ (r : Int) (ρ : Loc), ρ.lookup ("rank" : Str) = some (.dat (.int r)) → ρ.lookup ("up" : Str) = some (.dat (.int w.up)) → ρ.lookup ("count" : Str) = some (.dat (.int w.cnt)) → ρ.lookup ("value" : Str) = some (.dat (.int w.val)) → r = w.rank →
      ExJ (fnC "_law_key" (scopeOf "_law_key") 0 p) ρ ((bodyOf "_law_key").drop 3) (RetIs (.dat (dK w.key))) := by
    intro r ρ a1 a2 a3 a4 hr
    refine ExJ.cons (SxJ.ret (EvJ.tupE (.cons (EvJ.name a1) (.cons (EvJ.iteE (av₁ := .dat (.int (if w.cnt ≠ 0 then -(w.up : Int) else w.up))) (TvJ.val (EvJ.name a3) tr_int) (fun h => ?_) (fun h => ?_)) (.cons
      (EvJ.binop (EvJ.name a4) (EvJ.binop EvJ.intC (e24 ▸ EvJ.binop EvJ.intC (EvJ.name a3) op_sub) (op_pow (n := 24 - w.cnt) (by lia) (by decide))) (op_mul (by rw [e16]; exact mulOk h4 (self_lt16 _) (by lia) (by lia)))) (.cons (EvJ.name a3) .nil))))) ?_)
    · rw [if_pos (by simpa using h)]
      exact EvJ.unop (EvJ.name a2) op_usub
    · rw [if_neg (by simpa using h)]
      exact EvJ.name a2
    · subst hr
      simp only [RetIs, dK, Way.key, e16, List.map_cons, List.map_nil, Int.natCast_mul]
  refine ExJ.cons (SxJ.ifs (TvJ.cmp (EvJ.name rfl) EvJ.intC op_eqI) (fun h => ?_) fun h => ?_)
  · have h5 : w.root = 2 := by have : (w.root : Int) = 2 := by simpa using h
                               lia
    refine ExJ.cons (SxJ.assign EvJ.intC (.loc rfl) (ExJ.nil ?_))
    exact fin 3 _ rfl rfl rfl rfl (by simp [Way.rank, h5])
  · have h5 : w.root ≠ 2 := by have : (w.root : Int) ≠ 2 := by simpa using h
                               lia
    refine ExJ.cons (SxJ.ifs (TvJ.cmp (EvJ.name rfl) EvJ.intC op_eqI) (fun h => ?_) fun h => ?_)
    · have h6 : w.root = 1 := by have : (w.root : Int) = 1 := by simpa using h
                                 lia
      refine ExJ.cons (SxJ.assign (EvJ.iteE (av₁ := .dat (.int (if w.cnt ≠ 0 then 4 else 2))) (TvJ.val (EvJ.name rfl) tr_int) (fun h => ?_) (fun h => ?_)) (.loc rfl) (ExJ.nil (ExJ.nil ?_)))
      · rw [if_pos (by simpa using h)]; exact EvJ.intC
      · rw [if_neg (by simpa using h)]; exact EvJ.intC
      · exact fin _ _ rfl rfl rfl rfl (by simp [Way.rank, h5, h6])
    · have h6 : w.root ≠ 1 := by have : (w.root : Int) ≠ 1 := by simpa using h
                                 lia
      refine ExJ.cons (SxJ.ifs (TvJ.notT (TvJ.val (EvJ.name rfl) tr_int)) (fun h => ?_) fun h => ?_)
      · have h7 : w.cnt = 0 := by simpa using h
        refine ExJ.cons (SxJ.assign EvJ.intC (.loc rfl) (ExJ.nil (ExJ.nil (ExJ.nil ?_))))
        exact fin 0 _ rfl rfl rfl rfl (by simp [Way.rank, h5, h6, h7])
      · have h7 : w.cnt ≠ 0 := by simpa using h
        refine ExJ.cons (SxJ.ifs (TvJ.val (EvJ.name rfl) tr_int) (fun h => ?_) fun h => ?_)
        · have h8 : w.up ≠ 0 := by simpa using h
          refine ExJ.cons (SxJ.assign EvJ.intC (.loc rfl) (ExJ.nil (ExJ.nil (ExJ.nil (ExJ.nil ?_)))))
          exact fin 1 _ rfl rfl rfl rfl (by simp [Way.rank, h5, h6, h7, h8])
        · have h8 : w.up = 0 := by simpa using h
          refine ExJ.nil (ExJ.nil (ExJ.nil (ExJ.nil ?_)))
          exact fin 5 _ rfl rfl rfl rfl (by simp [Way.rank, h5, h6, h7, h8])
end Mine
end
section
open PySem PySem.W PySem.Calls PyProof.Rows PyProof.V
namespace Mine

theorem op_neB {a b : Bool} : Op2 (compareOp .NotEq) (.bool a) (.bool b) (.bool (a != b)) := fun C X Φ ρ f s v1 v2 H h1 h2 => by
  cases h1; cases h2; exact ne_bool ⟨Φ, fun zz1 h => h, H, .bool _⟩
theorem op_eqB {a b : Bool} : Op2 (compareOp .Eq) (.bool a) (.bool b) (.bool (a == b)) := fun C X Φ ρ f s v1 v2 H h1 h2 => by
  cases h1; cases h2; exact eq_bool ⟨Φ, fun zz1 h => h, H, .bool _⟩

noncomputable def shareGo : Nat → Nat → Nat → Nat → Nat → Nat × Nat
  | 0, c, v, _, _ => (c, v)
  | n + 1, c, v, c2, v2 => if c = c2 ∧ v = v2 then (c, v) else if c ≥ c2 then shareGo n (c - 1) (v / 16) c2 v2 else shareGo n c v (c2 - 1) (v2 / 16)
noncomputable def sharedL (a b : Way) : Option (List Nat) :=
  if decide (0 < a.root) ≠ decide (0 < b.root) then none
  else if a.up ≠ b.up then some (joinL 47 (List.replicate (min a.up b.up) [46, 46]))
  else some (List.replicate (min a.root 1) 47 ++ joinL 47 (Way.names ⟨0, a.up, (shareGo (a.cnt + b.cnt) a.cnt a.val b.cnt b.val).1, (shareGo (a.cnt + b.cnt) a.cnt a.val b.cnt b.val).2⟩))
noncomputable def dO : Option (List Nat) → Dat
  | none => .none
  | some l => DS l

theorem minN (a b : Nat) : (if (b : Int) < (a : Int) then (b : Int) else (a : Int)) = ((min a b : Nat) : Int) := by
  split <;> lia
theorem bi_minN {a b : Nat} : Bi (.builtin "min") [.int a, .int b] (.int (min a b : Nat)) := minN a b ▸ bi_min2
theorem bi_min1 {a : Nat} : Bi (.builtin "min") [.int a, .int 1] (.int (min a 1 : Nat)) := minN a 1 ▸ bi_min2
theorem join_dd {n : Nat} (hn : n ≤ 1000) : MethS1 "join" [47] (.list (List.replicate n (DS [46, 46]))) (DS (joinL 47 (List.replicate n [46, 46]))) := by
  have := meth_join 47 (xs := List.replicate n [46, 46]) (fun x hx => by rw [List.eq_of_mem_replicate hx]; decide) (by simp; lia)
  rw [List.map_replicate] at this; exact this
set_option maxHeartbeats 4000000 in
theorem j_shared {a b : Way} (ha : a.Ok) (hb : b.Ok) : FnJ "_law_shared" 3 [dW a, dW b] (.dat (dO (sharedL a b))) := by
  refine FnJ.intro (ns := ["one", "two"]) (pr := parsOf "_law_shared") (bd := bodyOf "_law_shared") (sc := scopeOf "_law_shared") (by rfl) (by decide +kernel) (fun doc pm an cd ct => len2 fun a b => rfl) rfl (by decide +kernel) (by decide +kernel) (by decide +kernel) ?_
  intro p hh
  obtain ⟨a1, a2, a3, a4⟩ := ha
  obtain ⟨b1, b2, b3, b4⟩ := hb
  refine ExJ.cons (SxJ.unpack (EvJ.name rfl) hh rfl rfl (kept_all (by rfl)) ?_)
  refine ExJ.cons (SxJ.unpack (EvJ.name rfl) hh rfl rfl (kept_all (by rfl)) ?_)
  refine ExJ.cons (SxJ.ifs (TvJ.cmp (EvJ.cmp (EvJ.name rfl) EvJ.intC op_gtI) (EvJ.cmp (EvJ.name rfl) EvJ.intC op_gtI) op_neB) (fun h => ?_) fun h => ?_)
  · have h1 : decide (0 < a.root) ≠ decide (0 < b.root) := by simpa using h
    refine ExJ.cons (SxJ.ret EvJ.noneC ?_)
    simp only [RetIs, sharedL, if_pos h1, dO]
  have h1 : ¬ decide (0 < a.root) ≠ decide (0 < b.root) := by simpa using h
  refine ExJ.nil (ExJ.cons (SxJ.ifs (TvJ.cmp (EvJ.name rfl) (EvJ.name rfl) op_neI) (fun h => ?_) fun h => ?_))
  · have h2 : a.up ≠ b.up := by rw [bneI] at h; exact of_decide_eq_true h
    refine ExJ.cons (SxJ.ret (@EvJ.meth1 _ _ _ _ _ _ _ _ _ _ EvJ.strC (EvJ.binop (EvJ.listE (.cons EvJ.strC .nil)) (EvJ.callB bi_minN hh (.cons (EvJ.name rfl) (.cons (EvJ.name rfl) .nil))) (op_mulL (n := min a.up b.up) (by lia)))
      (join_dd (by lia)) rfl rfl rfl) ?_)
    simp only [RetIs, sharedL, if_neg h1, if_pos h2, dO]
  have h2 : ¬ a.up ≠ b.up := by rw [bneI] at h; exact of_decide_eq_false h
  refine ExJ.nil ?_
  let R := shareGo (a.cnt + b.cnt) a.cnt a.val b.cnt b.val
  refine ExJ.cons (SxJ.whileE (fun n ρ => ∃ c v c2 v2, n = c + c2 ∧ c ≤ 500 ∧ c2 ≤ 500 ∧ v < 16 ^ c ∧ v2 < 16 ^ c2 ∧ shareGo n c v c2 v2 = R ∧
    ρ = ([("root", .dat (.int a.root)), ("up", .dat (.int a.up)), ("count", .dat (.int c)), ("value", .dat (.int v)), ("count2", .dat (.int c2)), ("value2", .dat (.int v2))] : Loc)) (n := a.cnt + b.cnt)
    ⟨a.cnt, a.val, b.cnt, b.val, rfl, a3, b3, a4, b4, rfl, rfl⟩ (.cons rfl (.cons rfl (.cons rfl (.cons rfl (.cons rfl (.cons rfl .nil)))))) ?_)
  rintro n ρ ⟨c, v, c2, v2, hn, hc, hc2, hv, hv2, hR, rfl⟩
  refine ⟨decide (¬ (c = c2 ∧ v = v2)), TvJ.as (TvJ.orT (TvJ.cmp (EvJ.name rfl) (EvJ.name rfl) op_neI) fun zz1 => TvJ.orT (TvJ.cmp (EvJ.name rfl) (EvJ.name rfl) op_neI) fun zz1 => .orNil) ?_, fun h => ?_, fun h => ?_⟩
  · rw [bneI, bneI]
    by_cases q1 : c = c2 <;> by_cases q2 : v = v2 <;> simp [q1, q2]
  · have hne : ¬ (c = c2 ∧ v = v2) := of_decide_eq_true h
    refine ExJ.cons (SxJ.ifs (TvJ.cmp (EvJ.name rfl) (EvJ.name rfl) op_geI) (fun h => ?_) fun h => ?_)
    · have h3 : c ≥ c2 := by have := of_decide_eq_true h; lia
      have h4 : c ≠ 0 := fun e => by
        subst e
        have : c2 = 0 := by lia
        subst this
        simp at hv hv2
        lia
      obtain ⟨k, rfl⟩ := Nat.exists_eq_succ_of_ne_zero h4
      have e1 : ((k + 1 : Nat) : Int) - 1 = (k : Int) := by lia
      have e2 : (v : Int).fdiv 16 = ((v / 16 : Nat) : Int) := fdivN v 16
      refine ExJ.cons (SxJ.unpackSw (ns := ["count", "value"]) (EvJ.tupE (.cons (EvJ.binop (EvJ.name rfl) EvJ.intC op_sub) (.cons (EvJ.binop (EvJ.name rfl) EvJ.intC (op_fdiv (by decide) (PyProof.noPylong_small (by decide)))) .nil))) hh rfl rfl (kept_all (by rfl)) ?_)
      rw [e1, e2]
      refine ExJ.nil (ExJ.nil ?_)
      refine ⟨k + c2, _, by lia, ⟨k, v / 16, c2, v2, rfl, by lia, hc2, by rw [Nat.pow_succ] at hv; lia, hv2, ?_, rfl⟩, .cons rfl (.cons rfl (.cons rfl (.cons rfl (.cons rfl (.cons rfl .nil)))))⟩
      rw [hn, show k + 1 + c2 = (k + c2) + 1 from by lia] at hR
      simp only [shareGo, if_neg hne, if_pos h3, Nat.add_sub_cancel] at hR
      exact hR
    · have h3 : ¬ c ≥ c2 := by have := of_decide_eq_false h; lia
      obtain ⟨k, rfl⟩ := Nat.exists_eq_succ_of_ne_zero (show c2 ≠ 0 by lia)
      have e1 : ((k + 1 : Nat) : Int) - 1 = (k : Int) := by lia
      have e2 : (v2 : Int).fdiv 16 = ((v2 / 16 : Nat) : Int) := fdivN v2 16
      refine ExJ.cons (SxJ.unpackSw (ns := ["count2", "value2"]) (EvJ.tupE (.cons (EvJ.binop (EvJ.name rfl) EvJ.intC op_sub) (.cons (EvJ.binop (EvJ.name rfl) EvJ.intC (op_fdiv (by decide) (PyProof.noPylong_small (by decide)))) .nil))) hh rfl rfl (kept_all (by rfl)) ?_)
      rw [e1, e2]
      refine ExJ.nil (ExJ.nil ?_)
      refine ⟨c + k, _, by lia, ⟨c, v, k, v2 / 16, rfl, hc, by lia, hv, by rw [Nat.pow_succ] at hv2; lia, ?_, rfl⟩, .cons rfl (.cons rfl (.cons rfl (.cons rfl (.cons rfl (.cons rfl .nil)))))⟩
      rw [hn, show c + (k + 1) = (c + k) + 1 from by lia] at hR
      simp only [shareGo, if_neg hne, if_neg h3, Nat.add_sub_cancel] at hR
      exact hR
  · have he : c = c2 ∧ v = v2 := by have := of_decide_eq_false h; simpa using this
    have hR2 : R = (c, v) := by
      rw [← hR]
      cases n with
      | zero => rfl
      | succ n => simp only [shareGo, if_pos he]
    have hwok : Way.Ok ⟨0, a.up, c, v⟩ := ⟨by simp, a2, hc, hv⟩
    have hjl := joinL_len (names_mem (w := ⟨0, a.up, c, v⟩))
    have hnl := names_len hwok
    refine ExJ.cons (SxJ.ret (EvJ.binop (EvJ.binop EvJ.strC (EvJ.callB bi_min1 hh (.cons (EvJ.name rfl) (.cons EvJ.intC .nil))) (op_mulS (c := 47) (n := min a.root 1) (by lia)))
      (@EvJ.meth1 _ _ _ _ _ _ _ _ _ _ EvJ.strC (EvJ.callL (j_names hwok) hh (.cons (EvJ.tupE (.cons EvJ.intC (.cons (EvJ.name rfl) (.cons (EvJ.name rfl) (.cons (EvJ.name rfl) .nil))))) .nil)) (meth_join 47 (fun x hx => by have := names_mem x hx; lia) (by lia)) rfl rfl rfl) (op_addS (by simp; lia))) ?_)
    simp only [RetIs, sharedL, if_neg h1, if_neg h2, dO]
    show AV.dat _ = AV.dat (DS (_ ++ joinL 47 (Way.names ⟨0, a.up, R.1, R.2⟩)))
    rw [hR2]
end Mine
end
section
open PySem PySem.W PySem.Calls PyProof.Rows PyProof.V
namespace Mine

theorem minus (h : Heap) : ∀ ax : List Addr, ∃ h' : Heap, (∀ b ∈ ax, h'.get? b = none) ∧ (∀ b, b ∉ ax → h'.get? b = h.get? b)
  | [] => ⟨h, fun zz1 hb => absurd hb List.not_mem_nil, fun zz1 zz2 => rfl⟩
  | a :: ax => by
    obtain ⟨h', h1, h2⟩ := minus h ax
    refine ⟨h'.update a fun o => { o with data := .freed }, fun b hb => ?_, fun b hb => ?_⟩
    · by_cases e : a = b
      · subst e
        obtain ⟨objs, l⟩ := h'
        simp only [Heap.update, Heap.get?, Array.getElem?_modify, if_true]
        cases objs[a]? <;> rfl
      · rw [Heap.get?_update_other _ _ e]
        rcases List.mem_cons.mp hb with q | q
        · exact absurd q.symm e
        · exact h1 b q
    · rw [Heap.get?_update_other _ _ (fun e : a = b => hb (by rw [← e]; exact .head _))]
      exact h2 b fun q => hb (.tail _ q)

set_option genInjectivity false in
structure CompP where
  h₀ : Heap
  Φ₀ : Led
  L : Addr
noncomputable def compC (C : Cx) (scope : Scope) (cl : List (Str × Addr)) (q : CompP) : Cx :=
  { C with h₀ := q.h₀, Φ₀ := q.Φ₀, env := compEnvC scope cl q.L C.env, fs := frs C.stk, mc := [] }

noncomputable def TsJ (C : Cx) (ρ : Loc) (ifs : List Expr) (b : Bool) : Prop :=
  ∀ X Φ f s, AtF C X Φ ρ f s → wpAny (model P C.w) C.A (forIn ifs true fun c r => if r = true then do let ok ← isTrue c C.env (eval c C.env); pure (ForInStep.yield ok) else pure (ForInStep.yield r)) (GotT C X Φ ρ f b) (fun zz1 zz2 => False) s
theorem TsJ.nil {C : Cx} {ρ : Loc} : TsJ C ρ [] true := fun X Φ f s H => wpAny_pure ⟨rfl, Φ, fun zz1 h => h, H⟩
theorem TsJ.one {C : Cx} {ρ : Loc} {e : Expr} {b : Bool} (h : TvJ C ρ e b) : TsJ C ρ [e] b := fun X Φ f s H => by
  rw [List.forIn_cons]
  refine wpAny_bind ?_
  show wpAny _ _ (if true = true then _ else _) _ _ s
  rw [if_pos rfl]
  refine wpAny_bind (wpAny_mono (h X Φ f s H) (fun v s' hv => wpAny_pure ?_) fun zz1 zz2 f => f)
  exact wpAny_pure hv

theorem strip {M : Model} {A : Around} {α : Type} {m : Sem α} {Q : α → Shared → Prop} {E : Value → Shared → Prop} {E' : Value → Shared → Prop} {s : Shared} (h : wpAny M A (pure () : Sem Unit) (fun zz1 s' => wpAny M A m Q E s') E' s) : wpAny M A m Q E s :=
  fun Γ p hΓ => h Γ p hΓ Γ p hΓ

structure Caught (C : Cx) (scope : Scope) (cl : List (Str × Addr)) (ρ ρ' : Loc) : Prop where
  clos : closureFor scope C.env = pure cl
  cell : ∀ y ∈ scope.names, y.2 ≠ .cell
  kind : scope.kind = .function
  names : ∀ y ∈ scope.names, y.2 = .local → scope.names.lookup y.1 = some .local
  cel : ∀ y, (relabel scope C.env).names.lookup y = some .cell → ∃ c, cl.lookup y = some c
  clIn : ∀ y c, cl.lookup y = some c → C.env.cells.lookup y = some c
  got : ∀ y av, ρ'.lookup y = some av → ρ.lookup y = some av ∧ (∀ ds, av ≠ .own ds) ∧ (relabel scope C.env).names.lookup y = some .cell ∧ C.env.kindOf y ≠ some .local

section
variable {C : Cx} {X Xi Φ Φ' : Led} {ρ ρ' : Loc} {m : Str → Option Value} {ow : List OwnE} {s s' : Shared} {x y : Str} {pos sp ap cp tp px py np : Pos} {e o tg : Expr} {scope : Scope} {cl : List (Str × Addr)}

theorem compAt (H : AtM C (Xi ++ X) Φ ρ m ow s) {ρ0 : Loc} (K : Caught C scope cl ρ ρ0) {hm : Heap} (hm1 : ∀ b ∈ Xi.map (·.1), hm.get? b = none) (hm2 : ∀ b, b ∉ Xi.map (·.1) → hm.get? b = s.heap.get? b)
    {D L : Addr} {h' : Heap} {tk : Nat} {ob : Obj} (hob : Xob ob) (k : ∀ b o, s.heap.get? b = some o → h'.get? b = some o) (hD0 : s.heap.get? D = none) (hL0 : s.heap.get? L = none) (hDL : D ≠ L) (hLs : s.heap.objs.size ≤ L)
    (hD : h'.get? D = some (ob)) (hL : h'.Ns L fun zz1 => none) :
    AtF (compC C scope cl ⟨hm, Φ, L⟩) (Xi ++ [(D, ob)]) Φ ρ0 ⟨fun zz1 => none, []⟩ { s with heap := h', toks := tk } := by
  have notX : ∀ {b o}, C.h₀.get? b = some o → b ∉ Xi.map (·.1) := fun {b o} e hb => by
    obtain ⟨p, hp, rfl⟩ := List.mem_map.mp hb
    have := H.xnew p (List.mem_append_left _ hp)
    rw [e] at this; cases this
  have xs : ∀ p ∈ Xi, s.heap.get? p.1 = some p.2 := fun p hp => H.xtr p (List.mem_append_left _ hp)
  have hmk : ∀ {b o}, hm.get? b = some o → s.heap.get? b = some o := fun {b o} e => by
    by_cases hb : b ∈ Xi.map (·.1)
    · rw [hm1 b hb] at e; cases e
    · rw [← hm2 b hb]; exact e
  have hmn : ∀ {b}, s.heap.get? b = none → hm.get? b = none := fun {b} e => by
    cases q : hm.get? b with
    | none => rfl
    | some o => rw [hmk q] at e; cases e
  have neL : ∀ {b o}, s.heap.get? b = some o → b ≠ L := fun {b o} e q => by rw [q, hL0] at e; cases e
  have neD : ∀ {b o}, s.heap.get? b = some o → b ≠ D := fun {b o} e q => by rw [q, hD0] at e; cases e
  have either : ∀ {p}, p ∈ Xi ++ [(D, ob)] → p ∈ Xi ∨ p = (D, ob) := fun {p} hp => (List.mem_append.mp hp).imp id List.mem_singleton.mp
  refine
    { ok :=
        { wd := H.ok.wd, kind := K.kind, glob := H.ok.glob, blt := H.ok.blt, stk := H.ok.stk, two := fun a ha => .inr ha
          fsd := fun a ha => ⟨ha, ?_⟩, frame := H.ok.frame, room := H.ok.room, cel := K.cel, inj := fun x y c h1 h2 => H.ok.inj x y c (K.clIn _ _ h1) (K.clIn _ _ h2) }
      fr := ⟨hL, fun b o e => k b o (H.fr.keep b o e), ?_⟩
      baseIn := fun a o e => ?_, keep := .of fun b o e => k b o (hmk e), stk := H.stk.upto (.of k : Upto [] _ _), led := fun p hp => k _ _ (H.led p hp), seq := H.seq
      ledm := fun p hp hm => ?_, xtr := fun p hp => ?_, xtrm := fun p hp => ?_, xled := fun p hp => ?_, xnew := fun p hp => ?_, xcel := fun p hp => ?_, xnd := ?_
      src := fun p hp => .inl hp, own := fun zz1 h => absurd h List.not_mem_nil, cells := fun zz1 h => absurd h List.not_mem_nil, nodup := ?_, nms := .nil, fresh := fun a ha => ?_, loc := fun y av e => ?_, gens := H.gens, os := H.os }
  · obtain ⟨_, o, es, n, ho, hd⟩ := H.stk.at ha
    refine ⟨o, es, n, ?_, hd⟩
    show hm.get? a = some o
    rw [hm2 a fun hb => ?_]
    · exact ho
    · obtain ⟨p, hp, rfl⟩ := List.mem_map.mp hb
      rw [xs p hp] at ho; cases ho
      exact (H.xtrm p (List.mem_append_left _ hp)).2 es n hd
  · exact Nat.le_trans H.fr.above (Nat.le_trans (Nat.le_of_lt H.fr.ns.lt) hLs)
  · show hm.get? a = some o
    rw [hm2 a (notX (H.baseIn a o e))]
    exact H.fr.keep a o e
  · have : p.1 = L := mem1 hm
    exact neL (H.led p hp) this
  · rcases either hp with h1 | rfl
    · exact k _ _ (xs p h1)
    · exact hD
  · rcases either hp with h1 | rfl
    · exact ⟨fun q => neL (xs p h1) (mem1 q), (H.xtrm p (List.mem_append_left _ h1)).2⟩
    · exact ⟨fun q => hDL (mem1 q), hob.1⟩
  · rcases either hp with h1 | rfl
    · exact H.xled p (List.mem_append_left _ h1)
    · exact fun q hq e => neD (H.led q hq) e
  · rcases either hp with h1 | rfl
    · exact hm1 _ (List.mem_map.mpr ⟨p, h1, rfl⟩)
    · exact hmn hD0
  · rcases either hp with h1 | rfl
    · exact H.xcel p (List.mem_append_left _ h1)
    · exact hob.2
  · have h1 := H.xnd
    rw [List.map_append] at h1 ⊢
    refine List.nodup_append.mpr ⟨(List.nodup_append.mp h1).1, by simp, fun a ha b hb e => ?_⟩
    obtain ⟨p, hp, rfl⟩ := List.mem_map.mp ha
    have : b = D := mem1 hb
    exact neD (xs p hp) (e.trans this)
  · exact List.nodup_cons.mpr ⟨by simp [compC], by simp [compC]⟩
  · rw [mem1 ha]
    exact hmn hL0
  · obtain ⟨h1, h2, h3, h4⟩ := K.got y av e
    obtain ⟨v, hs, hr⟩ := H.loc y av h1
    refine ⟨v, ?_, ?_⟩
    · rcases hs with ⟨hk, _⟩ | ⟨hk, c, hc, hi⟩
      · exact absurd hk h4
      · obtain ⟨c', hc'⟩ := K.cel y h3
        have := K.clIn y c' hc'
        have hcc : c' = c := Option.some.inj (this.symm.trans hc)
        exact .inr ⟨.inl h3, c, hcc ▸ hc', hi.keeps k⟩
    · cases av with
      | own ds => exact absurd rfl (h2 ds)
      | dat d => exact hr
      | val u => exact hr

theorem AtM.push1 {D : Addr} {vs : List Value} {n : Nat} {u : Value} {tk : Nat} (H : AtM C (Xi ++ [(D, listOf vs.toArray n)]) Φ ρ m ow s) :
    ∃ Xj n', Xj.map (·.1) = Xi.map (·.1) ∧ AtM C (Xj ++ [(D, listOf (vs ++ [u]).toArray n')]) Φ ρ m ow { s with heap := s.heap.update D (Obj.mapSeq (·.push u)), toks := tk } := by
  have hD := H.xtr (D, listOf vs.toArray n) (List.mem_append_right _ (.head _))
  have hg := get?_update_seq hD (·.push u)
  have hpush : vs.toArray.push u = (vs ++ [u]).toArray := by simp
  rw [hpush] at hg
  have hsb : Heap.SameBut D s.heap (s.heap.update D (Obj.mapSeq (·.push u))) := Heap.SameBut.update ..
  have H0 : AtM C ((Xi ++ [(D, listOf vs.toArray n)]) ++ []) Φ ρ m ow s := by rw [List.append_nil]; exact H
  have H1 := AtM.xloose H0 (wr := [D]) (fun b hb => by rw [mem1 hb]; simp) (h' := s.heap.update D (Obj.mapSeq (·.push u))) (tk := tk) fun b o hb e => (hsb.2 b fun q => hb (q ▸ .head _)).trans e
  obtain ⟨Xj, e, H2⟩ := AtM.xback H0 H1 fun b hb => by
    by_cases q : b = D
    · subst q; exact ⟨_, hg, xob_seq rfl⟩
    · obtain ⟨p, hp, rfl⟩ := List.mem_map.mp hb
      exact ⟨p.2, (hsb.2 _ q).trans (H.xtr p hp), fun es n => (H.xtrm p hp).2 es n, H.xcel p hp⟩
  rw [List.append_nil] at H2
  rw [List.map_append] at e
  obtain ⟨Xk, Y, rfl, e1, e2⟩ := List.map_eq_append_iff.mp e
  obtain ⟨y, rfl⟩ : ∃ y, Y = [y] := List.length_eq_one_iff.mp (by have := congrArg List.length e2; simpa using this)
  have e3 : y.1 = D := by simpa using e2
  have h4 := H2.xtr y (List.mem_append_right _ (.head _))
  rw [e3] at h4
  have h5 := h4.symm.trans hg
  have h6 : y = (D, listOf (vs ++ [u]).toArray (if ((vs ++ [u]).toArray.size == vs.toArray.size) = true then n else n + 1)) := Prod.ext e3 (Option.some.inj h5)
  rw [h6] at H2
  exact ⟨Xk, _, e1, H2⟩

structure Idle (C : Cx) (X Φ : Led) (ow : List OwnE) (L : Addr) : Prop where
  mts : L ∉ muts C ow
  led : ∀ p ∈ Φ, p.1 ≠ L
  xtr : ∀ p ∈ X, p.1 ≠ L
  h0 : C.h₀.get? L = none
  stk : L ∉ frs C.stk
theorem AtM.drift {L : Addr} {m4 : Str → Option Value} {h' : Heap} {tk : Nat} (H : AtM C X Φ ρ m ow s) (I : Idle C X Φ ow L) (hL : s.heap.Ns L m4) (hs : Heap.SameBut L s.heap h') : AtM C X Φ ρ m ow { s with heap := h', toks := tk } := by
  have k : ∀ {b o}, b ≠ L → s.heap.get? b = some o → h'.get? b = some o := fun {b o} hb e => (hs.2 b hb).trans e
  have n0 : ∀ {b o}, C.h₀.get? b = some o → b ≠ L := fun {b o} e q => by rw [q, I.h0] at e; cases e
  have nc : ∀ {c w}, s.heap.IsCell c w → h'.IsCell c w := fun {c w} ⟨o, ho, hd⟩ => ⟨o, k (fun q => by
    obtain ⟨o2, es, n, ho2, hd2, _⟩ := hL
    rw [q, ho2] at ho; cases ho
    rw [hd2] at hd; cases hd) ho, hd⟩
  have hmut : ∀ a ∈ muts C ow, a ≠ L := fun a ha q => I.mts (q ▸ ha)
  refine { H with fr := ⟨?_, fun b o e => k (n0 (H.baseIn b o e)) (H.fr.keep b o e), H.fr.above⟩, keep := ⟨fun b o e n => k (n0 e) (H.keep.off b o e n), fun b o e => ?_⟩, stk := fun env he => ?_, led := fun p hp => k (I.led p hp) (H.led p hp), xtr := fun p hp => k (I.xtr p hp) (H.xtr p hp), own := fun q hq => k (hmut _ (.tail _ (List.mem_append_right _ (List.mem_map.mpr ⟨q, hq, rfl⟩)))) (H.own q hq), cells := fun q hq => ?_, loc := fun y b e => ?_ }
  · obtain ⟨o, es, ep, ho, hd, r⟩ := H.fr.ns
    exact ⟨o, es, ep, k (hmut _ (.head _)) ho, hd, r⟩
  · obtain ⟨sl, e'⟩ := H.keep.on b o e
    exact ⟨sl, k (n0 e) e'⟩
  · obtain ⟨hk, F, o, es, n, hf, hb, ho, hd⟩ := H.stk env he
    exact ⟨hk, F, o, es, n, hf, hb, k (fun q => I.stk (q ▸ List.mem_filterMap.mpr ⟨env, he, hf⟩)) ho, hd⟩
  · obtain ⟨w, hi⟩ := H.cells q hq
    exact ⟨w, nc hi⟩
  · obtain ⟨u, hs', hr⟩ := H.loc y b e
    refine ⟨u, ?_, hr⟩
    rcases hs' with hs' | ⟨hk, c, hc, hi⟩
    · exact .inl hs'
    · exact .inr ⟨hk, c, hc, nc hi⟩
theorem AtM.storeK {av : AV} {v : Value} {R : Unit → Shared → Prop} {E : Value → Shared → Prop} {M : Model} {A : Around} (H : AtM C X Φ ρ m ow s) (hx : ∀ b, ρ.lookup x ≠ some b) (hk : Kept C x) (hr : LRel Φ ow x v av)
    (hq : ∀ s' m', AtM C X Φ ((x, av) :: ρ) m' ow s' → (∀ b, b ∉ muts C ow → s'.heap.get? b = s.heap.get? b) → R () s') : wpAny M A (storeName C.env x v) R E s := by
  cases hk with
  | loc h => exact wpAny_storeName_local h H.fr.ns (fun h' hn hs => hq _ _ (H.setL hx h hr hn hs) fun b hb => hs.2 b fun e => hb (e ▸ .head _)) (by rw [H.ok.kind]; rfl)
  | cell h hm =>
    obtain ⟨c, hc⟩ := H.ok.cel x h
    obtain ⟨w0, hw0⟩ := H.cells (x, c) (hm ▸ mem_lookup hc)
    exact wpAny_storeName_cell H.ok.kind h hc hw0 fun h' hn hs => hq _ _ (H.setC hx h hm hc hr hn hs) fun b hb => hs.2 b fun e => hb (e ▸ .tail _ (List.mem_append_left _ (List.mem_map.mpr ⟨(x, c), hm ▸ mem_lookup hc, rfl⟩)))

inductive CompI {α : Type} (C : Cx) (ρ : Loc) (D : Addr) (Φ1 : Led) (ax : List Addr) (St : Nat → Heap → Prop) (xs : List α) (p : α → Bool) (r : α → Dat) (n : Nat) (s' : Shared) : Prop
  | mk (i : Nat) (Φ' Xj : Led) (f' : Fm) (vs : List Value) (c : Nat) (e : n = xs.length - i) (hi : i ≤ xs.length) (g : ∀ p ∈ Φ1, p ∈ Φ') (hX : Xj.map (·.1) = ax) (H : AtF C (Xj ++ [(D, listOf vs.toArray c)]) Φ' ρ f' s') (hD : DatAll Φ' vs (((xs.take i).filter p).map r)) (st : St i s'.heap) : CompI C ρ D Φ1 ax St xs p r n s'
theorem compCore {α : Type} {xs : List α} {g r : α → Dat} {p : α → Bool} {elt iter : Expr} {ifs : List Expr} (hit : ItJ C ρ (.Name x px) iter ((xs.map g).map fun d ρ => (x, .dat d) :: ρ)) (hh : C.A.handled = none) (K : Caught C scope cl ρ ρ')
    (hx : scope.names.lookup x = some .local) (hz : xs.length ≤ 1000000)
    (body : ∀ q : CompP, ∀ a ∈ xs, TsJ (compC C scope cl q) ((x, .dat (g a)) :: ρ') ifs (p a) ∧ (p a = true → EvJ (compC C scope cl q) ((x, .dat (g a)) :: ρ') elt (.dat (r a))))
    {Q : Value → Shared → Prop} {E : Value → Shared → Prop} {use : Option (Value → Sem Unit)} {f : Fm} (H : AtF C X Φ ρ f s)
    (hQ : ∀ D L m4 s' Φ', (∀ p ∈ Φ, p ∈ Φ') → AtF C X Φ' ρ f s' → DatIn Φ' (.ref D) (.list ((xs.filter p).map r)) → Idle C X Φ' f.ow L → s'.heap.Ns L m4 → compPost (model P C.w) C.A E use Q (.ref D) L (.ok .next) s')
    (hs : ∀ x, foldedSetIterable iter C.env x = pure x := by intro a; rfl) :
    wpAny (model P C.w) C.A (comprehension (.ListComp elt [⟨.Name x px, iter, ifs, 0⟩] scope pos) scope C.env cp (newList []) false (eval iter C.env) use) Q E s := by
  refine wpAny_comprehension_free (use := use) rfl hs K.clos K.kind K.names (ff (wpAny_mono (hit X Φ f s H) (fun xv s1 h1 => ff (wpAny_mono h1 (fun it s2 h2 => ?_) fun zz1 zz2 e => e)) fun zz1 zz2 e => e))
  obtain ⟨I, fp, wr, ax, St, Φ1, Xi, rfl, g1, hXi, H2, st0, W⟩ := h2
  obtain ⟨hm, hm1, hm2⟩ := minus s2.heap ax
  -- the frame around, with the iterator put by
  have HM := AtM.xloose H2 (wr := ax) (fun b hb => by rw [hXi]; exact hb) (h' := hm) (tk := s2.toks) fun b o hb e => (hm2 b hb).trans e
  have hmk : ∀ {b o}, hm.get? b = some o → s2.heap.get? b = some o := fun {b o} e => by
    by_cases hb : b ∈ ax
    · rw [hm1 b hb] at e; cases e
    · rw [← hm2 b hb]; exact e
  have hmn : ∀ {b}, s2.heap.get? b = none → hm.get? b = none := fun {b} e => by
    cases q : hm.get? b with
    | none => rfl
    | some o => rw [hmk q] at e; cases e
  refine wpAny_newObj_type (wpAny_newFunctionEnv K.cell (by intro y hy; simp at hy) (fun h₁ hns₁ hsb₁ => ?_) K.kind)
  dsimp only at hns₁ hsb₁ ⊢
  have hD0 : s2.heap.get? s2.heap.objs.size = none := Heap.get?_none_of_le (Nat.le_refl _)
  have hsz : (s2.heap.push { cls := .type "list", dict := none, data := .seq ([] : List Value).toArray }).objs.size = s2.heap.objs.size + 1 := Heap.size_push ..
  rw [hsz] at hns₁ hsb₁ ⊢
  have hL0 : s2.heap.get? (s2.heap.objs.size + 1) = none := Heap.get?_none_of_le (Nat.le_succ _)
  have hDL : s2.heap.objs.size ≠ s2.heap.objs.size + 1 := Nat.ne_of_lt (Nat.lt_succ_self _)
  have old : ∀ b o, s2.heap.get? b = some o → h₁.get? b = some o := fun b o e =>
    hsb₁.extBut b o (fun q => by rw [q, hL0] at e; cases e) (Heap.get?_push_of_some _ (Heap.get?_push_of_some _ e))
  have hDh : h₁.get? s2.heap.objs.size = some (listOf #[] 0) := hsb₁.extBut _ _ hDL (Heap.get?_push_of_some _ (Heap.get?_push_size _ rfl))
  have B := compAt (tk := s2.toks) H2 K (by rw [hXi]; exact hm1) (by rw [hXi]; exact hm2) (xob_seq rfl) old hD0 hL0 hDL (Nat.le_succ _) hDh (by simpa using hns₁)
  have stB : St 0 h₁ := W.frame _ _ _ st0 fun b zz1 o e => old b o e
  generalize hCq : compC C scope cl ⟨hm, Φ1, s2.heap.objs.size + 1⟩ = C' at B
  have hA' : C'.A = C.A := by rw [← hCq]; rfl
  have hw' : C'.w = C.w := by rw [← hCq]; rfl
  have hkx : ∀ ns, tgNames (.Name x px) = some ns → ∀ n ∈ ns, Kept C' n := fun ns e n hn => by
    cases e
    rw [List.mem_singleton.mp hn, ← hCq]
    exact .loc (lookup_relabel_local hx)
  have henv : C'.env = compEnvC scope cl (s2.heap.objs.size + 1) C.env := by rw [← hCq]; rfl
  have loop : codeAny (model P C.w) C.A (.compLoop (.ListComp elt [⟨.Name x px, iter, ifs, 0⟩] scope pos) 0 (.ref I) (.ref s2.heap.objs.size) (compEnvC scope cl (s2.heap.objs.size + 1) C.env))
      (compPost (model P C.w) C.A E use Q (.ref s2.heap.objs.size) (s2.heap.objs.size + 1)) { s2 with heap := h₁, toks := s2.toks + ([] : List (Str × Value)).length } := by
    refine codeAny_compLoop_tests (CompI C' ρ' s2.heap.objs.size Φ1 ax St xs p r) ?_ xs.length
      ⟨0, Φ1, Xi, _, [], 0, rfl, Nat.zero_le _, fun zz1 h => h, hXi, B, .nil, stB⟩
    have hle : ∀ {d : Dat}, ρ'.Le ((x, .dat d) :: ρ') := fun {d} y av e => by
      have h3 := (K.got y av e).2.2.1
      have hyx : y ≠ x := fun q => by
        rw [q, show (relabel scope C.env).names.lookup x = some .local from lookup_relabel_local hx] at h3
        cases h3
      rw [List.lookup_cons, show (y == x) = false from beq_eq_false_iff_ne.mpr hyx]
      exact e
    rintro n s3 ⟨i, Φ2, Xj, f', vs, c, rfl, hi, g2, hXj, H3, hD3, st⟩
    rcases Nat.lt_or_eq_of_le hi with hlt | hlt
    · have hg : ((xs.map g).map fun d (ρ : Loc) => ((x, AV.dat d) :: ρ : Loc))[i]? = some fun ρ => (x, .dat (g xs[i])) :: ρ := by simp [hlt]
      have T := W.turn C' [(s2.heap.objs.size, listOf vs.toArray c)] Xj Φ2 ρ' f' s3 i _ (notedBy (model P C.w) C.A (compEnvC scope cl (s2.heap.objs.size + 1) C.env) fun e s' => compPost (model P C.w) C.A E use Q (.ref s2.heap.objs.size) (s2.heap.objs.size + 1) (.error e) s') hw' (by rw [hA']; exact hh) hkx g2 hXj H3 st hg
      rw [hA', henv] at T
      refine wpAny_mono T (fun r s4 ⟨v, hv, h4⟩ => ?_) fun zz1 zz2 h => h
      subst hv
      refine wpAny_mono (strip h4) (fun zz1 s5 ⟨Xk, hXk, ⟨f5, H5⟩, st5⟩ => ?_) fun zz1 zz2 h => h
      obtain ⟨ht, he⟩ := body ⟨hm, Φ1, s2.heap.objs.size + 1⟩ xs[i] (List.getElem_mem hlt)
      rw [hCq] at ht he
      have T2 := ht _ _ _ _ H5
      rw [hA', henv, hw'] at T2
      refine ff (wpAny_mono T2 (fun ok s6 ⟨e6, Φ6, g6, H6⟩ => ?_) fun zz1 zz2 f => f)
      subst e6
      have st6 := W.keep H5 hXk g2 st5 H6 g6
      have htk : (xs.take (i + 1)) = xs.take i ++ [xs[i]] := List.take_succ_eq_append_getElem hlt
      cases hp : p xs[i] with
      | false =>
        simp only [Bool.false_eq_true, if_false]
        refine ⟨xs.length - (i + 1), by omega, i + 1, Φ6, Xk, f5, vs, c, rfl, hlt, fun p hp => g6 p (g2 p hp), hXk, AtM.le H6 hle, ?_, st6⟩
        rw [htk, List.filter_append, List.filter_cons_of_neg (by simp [hp]), List.filter_nil, List.append_nil]
        exact hD3.mono g6
      | true =>
        simp only [if_true]
        have T3 := he hp _ _ _ _ H6
        rw [hA', henv, hw'] at T3
        refine ff (wpAny_mono T3 (fun v1 s7 ⟨Φ7, g7, H7, i7⟩ => ?_) fun zz1 zz2 f => f)
        have hD7 := H7.xtr (s2.heap.objs.size, listOf vs.toArray c) (List.mem_append_right _ (.head _))
        have hvl := hD3.length
        have hvl2 : vs.length ≤ 1000000 := by
          rw [hvl, List.length_map]
          exact Nat.le_trans (List.length_filter_le _ _) (by simp; omega)
        refine ff (call_meets F.slot_list_append ⟨_, hD7, rfl⟩ F.entry_list_append (F.args_list_append_2 _ _) (PySem.list_append s2.heap.objs.size vs.toArray c v1 (by rw [List.size_toArray, sizeLine_eq]; omega)) ⟨hD7, ?_⟩)
        obtain ⟨Xm, c', e7, H8⟩ := AtM.push1 (u := v1) (tk := s7.toks) H7
        refine ⟨xs.length - (i + 1), by omega, i + 1, Φ7, Xm, f5, vs ++ [v1], c', rfl, hlt, fun p hp => g7 p (g6 p (g2 p hp)), e7.trans hXk, AtM.le H8 hle, ?_, ?_⟩
        · rw [htk, List.filter_append, List.filter_cons_of_pos (by simp [hp]), List.filter_nil, List.map_append]
          exact (hD3.mono fun p hp => g7 p (g6 p hp)).append (.one i7)
        · have st7 := W.keep H6 hXk (fun p hp => g6 p (g2 p hp)) st6 H7 g7
          refine W.frame _ _ _ st7 fun b hb o ho => ?_
          refine (Heap.get?_update_other _ _ fun q => ?_).trans ho
          have hbx : ∀ {q : Addr × Obj}, q ∈ Xk → q.1 ≠ s2.heap.objs.size := fun {q} hq e => by
            have h1 := H7.xnd
            rw [List.map_append] at h1
            exact (List.nodup_append.mp h1).2.2 q.1 (List.mem_map.mpr ⟨q, hq, rfl⟩) s2.heap.objs.size (by simp) e
          rcases W.cov b hb with hc | hc
          · rw [← hXk] at hc
            obtain ⟨q', hq', e'⟩ := List.mem_map.mp hc
            exact hbx hq' (e'.trans q.symm)
          · obtain ⟨q', hq', e'⟩ := List.mem_map.mp hc
            exact H7.xled (s2.heap.objs.size, listOf vs.toArray c) (List.mem_append_right _ (.head _)) q' (g7 _ (g6 _ (g2 _ hq'))) (e'.trans q.symm)
    · subst hlt
      have hlen : ((xs.map g).map fun d (ρ : Loc) => ((x, AV.dat d) :: ρ : Loc)).length = xs.length := by simp
      have T := W.stop C' [(s2.heap.objs.size, listOf vs.toArray c)] Xj Φ2 ρ' f' s3 (notedBy (model P C.w) C.A (compEnvC scope cl (s2.heap.objs.size + 1) C.env) fun e s' => compPost (model P C.w) C.A E use Q (.ref s2.heap.objs.size) (s2.heap.objs.size + 1) (.error e) s') hw' (by rw [hA']; exact hh) g2 hXj H3 (by rw [hlen]; exact st)
      rw [hA'] at T
      refine wpAny_mono T (fun r s4 ⟨hr, H4⟩ => ?_) fun zz1 zz2 h => h
      subst hr
      have hloc : C'.env.locals = s2.heap.objs.size + 1 := by rw [henv]; rfl
      have hh0 : C'.h₀ = hm := by rw [← hCq]; rfl
      have hp0 : C'.Φ₀ = Φ1 := by rw [← hCq]; rfl
      have hfs : C'.fs = frs C.stk := by rw [← hCq]; rfl
      have hD4 := H4.xtr (s2.heap.objs.size, listOf vs.toArray c) (.head _)
      have U : Upto (frs C.stk) hm s4.heap := by
        refine ⟨fun b o e nb => ?_, fun b o e => ?_⟩
        · exact H4.keep.off b o (by rw [hh0]; exact e) (by rw [hfs]; exact nb)
        · exact H4.keep.on b o (by rw [hh0]; exact e)
      have ex2 : ∀ {b o}, s2.heap.get? b = some o → b ≠ s2.heap.objs.size + 1 := fun {b o} e q => by rw [q, hL0] at e; cases e
      refine hQ _ (s2.heap.objs.size + 1) f'.m s4 ((s2.heap.objs.size, listOf vs.toArray c) :: Φ2) (fun p hp => .tail _ (g2 p (g1 p hp))) (AtM.upto HM (s' := s4) U (fun p hp => .tail _ (g2 p hp)) (fun p hp => ?_) ?_ ?_) (.list (.head _) ?_) ⟨fun hmm => ?_, fun p hp => ?_, fun p hp => ex2 (H2.xtr p (List.mem_append_right _ hp)), ?_, fun hmm => ?_⟩ (hloc ▸ H4.fr.ns)
      · rcases List.mem_cons.mp hp with rfl | hp
        · exact .inr ⟨hD4, hmn hD0, _, _, rfl⟩
        · rcases H4.src p hp with q | q
          · exact .inl (hp0 ▸ q)
          · exact .inr ⟨H4.led p hp, by rw [hh0] at q; exact q, H4.seq p hp⟩
      · have : C'.gens = C.gens := by rw [← hCq]; rfl
        exact H4.gens.trans (this.trans H2.gens.symm)
      · have : C'.os = C.os := by rw [← hCq]; rfl
        exact H4.os.trans (this.trans H2.os.symm)
      · rw [List.take_length] at hD3
        exact hD3.mono fun p hp => .tail _ hp
      · obtain ⟨o, ho⟩ := H2.some_of_mut hmm
        exact ex2 ho rfl
      · rcases List.mem_cons.mp hp with rfl | hp
        · exact hDL
        · exact fun e => H4.ledm p hp (by rw [e, ← hloc]; exact .head _)
      · cases q : C.h₀.get? (s2.heap.objs.size + 1) with
        | none => rfl
        | some o =>
          obtain ⟨sl, e'⟩ := H2.keep.on _ _ q
          exact absurd rfl (ex2 e')
      · obtain ⟨_, o, _, _, ho, _⟩ := H2.stk.at hmm
        exact ex2 ho rfl
  exact codeAny_compStart_list loop (W.self _ 0 _ _ _ stB loop)

theorem EvJ.compE {α : Type} {xs : List α} {g r : α → Dat} {p : α → Bool} {elt iter : Expr} {ifs : List Expr} (hit : ItJ C ρ (.Name x px) iter ((xs.map g).map fun d ρ => (x, .dat d) :: ρ)) (hh : C.A.handled = none) (K : Caught C scope cl ρ ρ')
    (body : ∀ q : CompP, ∀ a ∈ xs, TsJ (compC C scope cl q) ((x, .dat (g a)) :: ρ') ifs (p a) ∧ (p a = true → EvJ (compC C scope cl q) ((x, .dat (g a)) :: ρ') elt (.dat (r a))))
    (hz : xs.length ≤ 1000000) (hx : scope.names.lookup x = some .local := by rfl) (hs : ∀ x, foldedSetIterable iter C.env x = pure x := by intro a; rfl) :
    EvJ C ρ (.ListComp elt [⟨.Name x px, iter, ifs, 0⟩] scope pos) (.dat (.list ((xs.filter p).map r))) := fun X Φ f s H => by
  rw [eval_ListComp]
  exact compCore (cp := iter.pos) (use := none) hit hh K hx hz body H (fun D L m4 s' Φ' g1 H' i I hL => ⟨m4, hL, fun h' hs' => ⟨Φ', g1, AtM.drift (tk := s'.toks) H' I hL hs', i⟩⟩) hs
theorem SxJ.assignComp {α : Type} {xs : List α} {g r : α → Dat} {p : α → Bool} {elt iter : Expr} {ifs : List Expr} {Q : Out → Prop} {spos : Pos} (hit : ItJ C ρ (.Name x px) iter ((xs.map g).map fun d ρ => (x, .dat d) :: ρ)) (hh : C.A.handled = none) (K : Caught C scope cl ρ ρ')
    (body : ∀ q : CompP, ∀ a ∈ xs, TsJ (compC C scope cl q) ((x, .dat (g a)) :: ρ') ifs (p a) ∧ (p a = true → EvJ (compC C scope cl q) ((x, .dat (g a)) :: ρ') elt (.dat (r a))))
    (hz : xs.length ≤ 1000000) (hk : Kept C y) (hq : Q (.next ((y, .dat (.list ((xs.filter p).map r))) :: ρ))) (hx : scope.names.lookup x = some .local := by rfl) (hs : ∀ x, foldedSetIterable iter C.env x = pure x := by intro a; rfl)
    (hsw : swapsWith (.ListComp elt [⟨.Name x px, iter, ifs, 0⟩] scope pos) (some (.Name y py)) spos.line C.env = pure true := by rfl) :
    SxJ C ρ (.Assign [.Name y py] (.ListComp elt [⟨.Name x px, iter, ifs, 0⟩] scope pos) spos) Q := fun X Φ f s H => by
  rw [exec_Assign_Name_used _ _ _ _ hsw]
  refine wpAny_bind (wpAny_standAt (wpAny_bind ?_))
  show wpAny _ C.A (do let _ ← comprehension (.ListComp elt [⟨.Name x px, iter, ifs, 0⟩] scope pos) scope C.env iter.pos (newList []) false (eval iter C.env) (some (PySem.assign (Expr.Name y py) C.env))) _ _ s
  refine wpAny_bind ?_
  refine compCore (cp := iter.pos) (pos := pos) (use := some (PySem.assign (Expr.Name y py) C.env)) hit hh K hx hz body (Q := fun zz1 s' => wpAny (model P C.w) C.A (pure PUnit.unit) (fun zz1 s' => wpAny (model P C.w) C.A (pure .next) (Done C X Φ Q) (DoneE C X Φ Q) s') (DoneE C X Φ Q) s') H (fun D L m4 s' Φ' g1 H' i I hL => ?_) hs
  refine PyProof.Rows.assign_Name ?_
  refine AtM.storeK (H'.drop y) (fun b => filter_lookup_none b) hk (av := .dat _) i fun s5 m5 H5 hk5 => ?_
  have I5 : Idle C X Φ' (dropO y f.ow) L := ⟨fun h => I.mts (muts_drop h), I.led, I.xtr, I.h0, I.stk⟩
  have hL5 : s5.heap.Ns L m4 := by
    obtain ⟨o, es, ep, ho, r⟩ := hL
    exact ⟨o, es, ep, (hk5 L I5.mts).trans ho, r⟩
  exact ⟨m4, hL5, fun h' hs' => wpAny_pure (wpAny_pure ⟨Φ', .next _, g1, hq, (AtM.undrop (AtM.drift (tk := s5.toks) H5 I5 hL5 hs')).at⟩)⟩
theorem EvJ.compA {α : Type} {xs : List α} {g r : α → Dat} {elt iter : Expr} (hit : ItJ C ρ (.Name x px) iter ((xs.map g).map fun d ρ => (x, .dat d) :: ρ)) (hh : C.A.handled = none) (K : Caught C scope cl ρ ρ')
    (body : ∀ q : CompP, ∀ a ∈ xs, EvJ (compC C scope cl q) ((x, .dat (g a)) :: ρ') elt (.dat (r a)))
    (hz : xs.length ≤ 1000000) (hx : scope.names.lookup x = some .local := by rfl) (hs : ∀ x, foldedSetIterable iter C.env x = pure x := by intro a; rfl) :
    EvJ C ρ (.ListComp elt [⟨.Name x px, iter, [], 0⟩] scope pos) (.dat (.list (xs.map r))) := by
  have := EvJ.compE (p := fun zz1 => true) (pos := pos) hit hh K (fun q a ha => ⟨.nil, fun zz1 => body q a ha⟩) hz hx hs
  rwa [List.filter_eq_self.mpr fun zz1 zz2 => rfl] at this
end
end Mine
end
section
open PySem PySem.W PySem.Calls PyProof.Rows PyProof.V PySem.Spec
namespace Mine

section
variable {C : Cx} {X Φ : Led} {ρ : Loc} {m : Str → Option Value} {ow : List OwnE} {s : Shared}
theorem AtM.news (H : AtM C X Φ ρ m ow s) : News {} C.env.locals s.heap Φ := fun p hp => ⟨H.led p hp, fun e => H.ledm p hp (e ▸ .head _), by simp [Heap.get?]⟩
end
theorem shaped_of {d : Dat} (h : kqdOk 8 d = true) : SeqAt.shaped (kqdP d) = true := by
  have l := kqd_lay 8 d h
  unfold SeqAt.shaped
  rw [l.1, Bool.true_and]
  exact decide_eq_true (Nat.le_trans l.2 (by decide))
theorem op_eqD {a b : Dat} {t : Bool} (ha : kqdOk 8 a = true) (hb : kqdOk 8 b = true) (ht : t = true ↔ a = b) : Op2 (compareOp .Eq) a b (.bool t) := fun C X Φ ρ f s v1 v2 H h1 h2 => by
  obtain ⟨as, ra⟩ := kqd_in (AtM.news H) 8 h1 ha
  obtain ⟨bs, rb⟩ := kqd_in (AtM.news H) 8 h2 hb
  have e : PyData.eqv (kqdP a) (kqdP b) = t := by
    have q := kqd_eqv 8 a b 8 ha hb
    cases t
    · exact Bool.eq_false_iff.mpr fun x => by have := ht.mpr (q.mp x); cases this
    · exact q.mpr (ht.mp rfl)
  exact eq_dataH ra rb (shaped_of ha) (shaped_of hb) (AtM.units H) ⟨Φ, fun zz1 h => h, H, by rw [e]; exact .bool _⟩
theorem op_neD {a b : Dat} {t : Bool} (ha : kqdOk 8 a = true) (hb : kqdOk 8 b = true) (ht : t = true ↔ a = b) : Op2 (compareOp .NotEq) a b (.bool (!t)) := fun C X Φ ρ f s v1 v2 H h1 h2 => by
  obtain ⟨as, ra⟩ := kqd_in (AtM.news H) 8 h1 ha
  obtain ⟨bs, rb⟩ := kqd_in (AtM.news H) 8 h2 hb
  have e : PyData.eqv (kqdP a) (kqdP b) = t := by
    have q := kqd_eqv 8 a b 8 ha hb
    cases t
    · exact Bool.eq_false_iff.mpr fun x => by have := ht.mpr (q.mp x); cases this
    · exact q.mpr (ht.mp rfl)
  exact ne_dataH ra rb (shaped_of ha) (shaped_of hb) (AtM.units H) ⟨Φ, fun zz1 h => h, H, by rw [e]; exact .bool _⟩
theorem op_notInD {a : Dat} {ds : List Dat} {t : Bool} (ha : kqdOk 8 a = true) (hb : ∀ d ∈ ds, kqdOk 8 d = true) (ht : t = true ↔ a ∈ ds) : Op2 (compareOp .NotIn) a (.list ds) (.bool (!t)) := fun C X Φ ρ f s v1 v2 H h1 h2 => by
  obtain ⟨l, vs, n, rfl, hm, hD⟩ := DatIn.listInv h2
  refine kqd_notIn (AtM.news H) hm rfl rfl hD (fun zz1 h => h) h1 (fun zz1 h => h) hb ha (AtM.units H) ⟨Φ, fun zz1 h => h, H, ?_⟩
  have : ∀ i : Decidable (a ∈ ds), @decide _ i = t := fun i => by
    by_cases q : a ∈ ds
    · rw [decide_eq_true q, ht.mpr q]
    · rw [decide_eq_false q]
      cases t
      · rfl
      · exact absurd (ht.mp rfl) q
  rw [this]
  exact .bool _
theorem tr_list {ds : List Dat} (hz : ds.length ≤ 1000000) : Tr (.list ds) (!ds.isEmpty) := fun C X Φ ρ f s v1 H h1 => by
  obtain ⟨a, vs, n, rfl, hm, hD⟩ := DatIn.listInv h1
  have hlen := hD.length
  have hL : s.heap.IsList a vs.toArray := ⟨_, H.led _ hm, rfl, _, rfl⟩
  refine wpAny_truthy_list hL (by rw [List.size_toArray, hlen]; lia) ⟨?_, Φ, fun zz1 h => h, H.toks _⟩
  have : vs.toArray.isEmpty = ds.isEmpty := by
    cases vs <;> cases ds <;> simp_all
  rw [this]

theorem kq_str {l : List Nat} (h : ∀ c ∈ l, c < 128) (n : Nat) : kqdOk n (DS l) = true := by
  have : PyData.strOk (T l) = true := by
    unfold PyData.strOk
    rw [Array.all_eq_true_iff_forall_mem]
    intro c hc
    have := h c (by simpa using hc)
    simp; lia
  cases n <;> exact this

noncomputable def Asc (l : List Nat) : Prop := ∀ c ∈ l, c < 128
theorem asc_join {xs : List (List Nat)} (h : ∀ x ∈ xs, Asc x) : Asc (joinL 47 xs) := by
  induction xs with
  | nil => intro c hc; simp [joinL] at hc
  | cons x r ih =>
    cases r with
    | nil => exact h x (.head _)
    | cons y r =>
      intro c hc
      rcases List.mem_append.mp (show c ∈ x ++ 47 :: joinL 47 (y :: r) from hc) with q | q
      · exact h x (.head _) c q
      · rcases List.mem_cons.mp q with rfl | q
        · decide
        · exact ih (fun z hz => h z (.tail _ hz)) c q
theorem asc_app {a b : List Nat} (ha : Asc a) (hb : Asc b) : Asc (a ++ b) := fun c hc => (List.mem_append.mp hc).elim (ha c) (hb c)
theorem asc_rep {n k : Nat} (h : k < 128) : Asc (List.replicate n k) := fun c hc => by rw [List.eq_of_mem_replicate hc]; exact h
theorem asc_sub {a b : List Nat} (h : ∀ c ∈ a, c ∈ b) (hb : Asc b) : Asc a := fun c hc => hb c (h c hc)
theorem lets_mem : ∀ k v, ∀ c ∈ lets k v, 65 ≤ c ∧ c < 81
  | 0, _, c, h => by simp [lets] at h
  | k + 1, v, c, h => by
    rcases List.mem_append.mp (show c ∈ lets k (v / 16) ++ [65 + v % 16] from h) with q | q
    · exact lets_mem k _ c q
    · have : c = 65 + v % 16 := by simpa using q
      lia
theorem asc_names (w : Way) : ∀ x ∈ w.names, Asc x := fun x hx => by
  rcases List.mem_append.mp hx with h | h
  · rw [List.eq_of_mem_replicate h]
    intro c hc
    have : c = 46 := by simpa using hc
    lia
  · obtain ⟨c, hc, rfl⟩ := List.mem_map.mp h
    intro d hd
    have := lets_mem _ _ c hc
    have : d = c := by simpa using hd
    lia
theorem asc_text (w : Way) : Asc w.text := by
  unfold Way.text
  dsimp only
  split
  · intro c hc
    have : c = 46 := by simpa using hc
    lia
  · exact asc_app (asc_rep (by decide)) (asc_join (asc_names w))
theorem splitroot_app (l : List Nat) : (splitrootL l).1 ++ (splitrootL l).2 = l := by
  unfold splitrootL
  split <;> rfl
theorem rstrip_sub (c : Nat) (l : List Nat) : ∀ x ∈ rstripL c l, x ∈ l := fun x hx => by
  unfold rstripL at hx
  have := List.dropWhile_subset _ (List.mem_reverse.mp hx)
  exact List.mem_reverse.mp this
theorem splitP_sub (l : List Nat) : (∀ x ∈ (splitPL l).1, x ∈ l) ∧ ∀ x ∈ (splitPL l).2, x ∈ l := by
  have h := lastL_app l
  refine ⟨fun x hx => ?_, fun x hx => ?_⟩
  · rw [← h]
    refine List.mem_append_left _ ?_
    unfold splitPL at hx
    dsimp only at hx
    split at hx
    · exact rstrip_sub _ _ x hx
    · exact hx
  · rw [← h]
    exact List.mem_append_right _ hx
theorem text_len {w : Way} (h : w.Ok) (hs : w.up + w.cnt ≤ 200) : w.text.length ≤ 700 := by
  have h1 := h.1
  have h2 := joinL_len (names_mem (w := w))
  have h3 : w.names.length = w.up + w.cnt := by simp [Way.names, lets_len]
  unfold Way.text
  dsimp only
  split
  · simp
  · simp; lia

noncomputable def Way.parts (w : Way) : List Nat × List Nat :=
  if w.names = [] then (List.replicate w.root 47, if w.root ≠ 0 then [] else [46])
  else (List.replicate w.root 47 ++ joinL 47 w.names.dropLast, w.names.getLast?.getD [])
noncomputable def seenB (w : Way) (sp : List Nat) : Bool :=
  decide (normL sp = w.text) && (decide (normL w.text = w.text) && ((decide (w.text.head? = some 47) == decide (0 < w.root)) &&
    (decide (splitrootL w.text = (List.replicate w.root 47, w.text.drop w.root)) && decide (splitPL w.text = w.parts))))

theorem sl_init {α : Type} (l : List α) : sl none (some (-1)) l = l.dropLast := by
  unfold sl kms_lo kms_hi
  simp [List.dropLast_eq_take]
theorem kq_pair {a b : List Nat} (ha : Asc a) (hb : Asc b) : kqdOk 8 (.tuple [DS a, DS b]) = true := by
  show ([DS a, DS b].all (kqdOk 7)) = true
  rw [List.all_cons, List.all_cons, kq_str ha, kq_str hb]; rfl
theorem kq_trip {a b c : List Nat} (ha : Asc a) (hb : Asc b) (hc : Asc c) : kqdOk 8 (.tuple [DS a, DS b, DS c]) = true := by
  show ([DS a, DS b, DS c].all (kqdOk 7)) = true
  rw [List.all_cons, List.all_cons, List.all_cons, kq_str ha, kq_str hb, kq_str hc]; rfl
theorem DS_inj {a b : List Nat} : DS a = DS b ↔ a = b := ⟨fun h => T_inj (by cases h; rfl), fun h => by rw [h]⟩

set_option maxHeartbeats 4000000 in
theorem j_seen {w : Way} {sp : List Nat} (hw : w.Ok) (hs : w.up + w.cnt ≤ 200) (hsp : sp.length ≤ 900) : FnJ "_law_seen" 4 [dW w, DS sp] (.dat (.bool (seenB w sp))) := by
  refine FnJ.intro (ns := ["way", "spelled"]) (pr := parsOf "_law_seen") (bd := bodyOf "_law_seen") (sc := scopeOf "_law_seen") (by rfl) (by decide +kernel) (fun doc pm an cd ct => len2 fun a b => rfl) rfl (by decide +kernel) (by decide +kernel) (by decide +kernel) ?_
  intro p hh
  have htl := text_len hw hs
  have hr := hw.1
  have hnl := names_len hw
  have hat := asc_text w
  have hdl : ∀ x ∈ w.names.dropLast, x ∈ w.names := fun x hx => List.dropLast_subset _ hx
  have hjl := joinL_len (fun x hx => names_mem (w := w) x (hdl x hx))
  have hdn : w.names.dropLast.length ≤ 1000 := by simp; lia
  refine ExJ.cons (SxJ.assign (EvJ.callL (j_text hw) hh (.cons (EvJ.name rfl) .nil)) (.loc rfl) ?_)
  refine ExJ.cons (SxJ.assign (EvJ.callL (j_names hw) hh (.cons (EvJ.name rfl) .nil)) (.loc rfl) ?_)
  refine ExJ.cons (SxJ.assign (EvJ.binop EvJ.strC (EvJ.itemT (d := .int w.root) (EvJ.name rfl) EvJ.intC (by decide) rfl (by decide)) (op_mulS (c := 47) (by lia))) (.loc rfl) ?_)
  have hparts : Asc w.parts.1 ∧ Asc w.parts.2 := by
    unfold Way.parts
    split
    · refine ⟨asc_rep (by decide), ?_⟩
      dsimp only
      split
      · intro c hc; cases hc
      · intro c hc
        have : c = 46 := by simpa using hc
        lia
    · refine ⟨asc_app (asc_rep (by decide)) (asc_join fun x hx => asc_names w x (hdl x hx)), ?_⟩
      dsimp only
      cases hg : w.names.getLast? with
      | none => intro c hc; cases hc
      | some a => exact asc_names w a (List.mem_of_getLast? hg)
  refine ExJ.cons (SxJ.assign (av := .dat (.tuple [DS w.parts.1, DS w.parts.2])) (EvJ.iteE (TvJ.val (EvJ.name rfl) (tr_list (by simp; lia))) (fun h => ?_) (fun h => ?_)) (.loc rfl) ?_)
  · have hne : w.names ≠ [] := by simpa using h
    obtain ⟨a, ha⟩ : ∃ a, w.names.getLast? = some a := ⟨_, List.getLast?_eq_some_getLast hne⟩
    have e1 : w.parts = (List.replicate w.root 47 ++ joinL 47 w.names.dropLast, a) := by
      unfold Way.parts; rw [if_neg hne, ha]; rfl
    rw [e1]
    refine EvJ.tupE (.cons (EvJ.binop (EvJ.name rfl) (@EvJ.meth1 _ _ _ _ _ _ _ _ _ _ EvJ.strC (EvJ.sliceL (EvJ.name rfl) .none (.some (EvJ.unop EvJ.intC op_usub)) (by simp; lia)) ?_ rfl rfl rfl) (op_addS (by simp at hjl ⊢; lia))) (.cons (EvJ.itemNeg (EvJ.name rfl) (EvJ.unop EvJ.intC op_usub) (by decide) ?_ ?_ (by decide)) .nil))
    · rw [show (-1 : Int) = (-1 : Int) from rfl, sl_init, ← List.map_dropLast]
      exact meth_join 47 (fun x hx => by have := names_mem x (hdl x hx); lia) hdn
    · have : 0 < w.names.length := List.length_pos_iff.mpr hne
      simp; lia
    · have h0 : 0 < w.names.length := List.length_pos_iff.mpr hne
      rw [List.length_map, show ((-1 : Int) + (w.names.length : Int)).toNat = w.names.length - 1 from by lia, List.getElem?_map]
      rw [List.getLast?_eq_getElem?] at ha
      rw [ha]; rfl
  · have hne : w.names = [] := by simpa using h
    have e1 : w.parts = (List.replicate w.root 47, if w.root ≠ 0 then [] else [46]) := by
      unfold Way.parts; rw [if_pos hne]
    rw [e1]
    refine EvJ.tupE (.cons (EvJ.name rfl) (.cons (EvJ.iteE (TvJ.val (EvJ.name rfl) (tr_str (x := List.replicate w.root 47) (by simp; lia))) (fun h => ?_) (fun h => ?_)) .nil))
    · have : w.root ≠ 0 := by simpa using h
      rw [if_pos this]
      exact EvJ.strC
    · have : ¬ w.root ≠ 0 := by simpa using h
      rw [if_neg this]
      exact EvJ.strC
  · have hsub := splitP_sub w.text
    have hsr := splitroot_app w.text
    refine ExJ.cons (SxJ.ret (av := .dat (.bool (seenB w sp))) ?_ rfl)
    unfold seenB
    refine EvJ.andE (EvJ.cmp (EvJ.callL (j_normpath sp hsp) hh (.cons (EvJ.name rfl) .nil)) (EvJ.name rfl) op_eqS) tr_bool (fun h => ?_) (fun h => by rw [h]; rfl)
    rw [h, Bool.true_and]
    refine EvJ.andE (EvJ.cmp (EvJ.callL (j_normpath w.text (by lia)) hh (.cons (EvJ.name rfl) .nil)) (EvJ.name rfl) op_eqS) tr_bool (fun h => ?_) (fun h => by rw [h]; rfl)
    rw [h, Bool.true_and]
    have eroot : decide ((w.root : Int) > 0) = decide (0 < w.root) := by
      by_cases q : 0 < w.root
      · rw [decide_eq_true q]; exact decide_eq_true (by lia)
      · rw [decide_eq_false q]; exact decide_eq_false (by lia)
    refine EvJ.andE (EvJ.cmp (EvJ.callL (j_isabs w.text) hh (.cons (EvJ.name rfl) .nil)) (EvJ.cmp (EvJ.itemT (d := .int w.root) (EvJ.name rfl) EvJ.intC (by decide) rfl (by decide)) EvJ.intC op_gtI) op_eqB) tr_bool (fun h => ?_) (fun h => ?_)
    rotate_left
    · rw [eroot] at h ⊢
      rw [h]; rfl
    · rw [eroot] at h
      rw [h, Bool.true_and]
      have e2 : sl (some (w.root : Int)) none w.text = w.text.drop w.root := sl_drop _ _
      refine EvJ.andE (EvJ.cmp (EvJ.callL (j_splitroot w.text (by lia)) hh (.cons (EvJ.name rfl) .nil)) (EvJ.tupE (.cons EvJ.strC (.cons (EvJ.name rfl) (.cons (EvJ.sliceS (EvJ.name rfl) (.some (EvJ.itemT (d := .int w.root) (EvJ.name rfl) EvJ.intC (by decide) rfl (by decide))) .none (by lia)) .nil))))
        (op_eqD (t := decide (splitrootL w.text = (List.replicate w.root 47, w.text.drop w.root))) ?_ ?_ ?_)) tr_bool (fun h => ?_) (fun h => by rw [h]; rfl)
      · exact kq_trip (fun c hc => by cases hc) (asc_sub (fun c hc => by rw [← hsr]; exact List.mem_append_left _ hc) hat) (asc_sub (fun c hc => by rw [← hsr]; exact List.mem_append_right _ hc) hat)
      · rw [e2]
        exact kq_trip (a := []) (fun c hc => by cases hc) (asc_rep (by decide)) (asc_sub (fun c hc => List.mem_of_mem_drop hc) hat)
      · rw [e2, decide_eq_true_iff]
        constructor
        · intro h; rw [h]; rfl
        · intro h
          have h' : DS (splitrootL w.text).1 = DS (List.replicate w.root 47) ∧ DS (splitrootL w.text).2 = DS (w.text.drop w.root) := by
            simp only [Dat.tuple.injEq, List.cons.injEq, and_true] at h
            exact ⟨h.2.1, h.2.2⟩
          exact Prod.ext (DS_inj.mp h'.1) (DS_inj.mp h'.2)
      · rw [h, Bool.true_and]
        refine .oneE (EvJ.cmp (EvJ.callL (j_split w.text (by lia)) hh (.cons (EvJ.name rfl) .nil)) (EvJ.name rfl) (op_eqD (kq_pair (asc_sub hsub.1 hat) (asc_sub hsub.2 hat)) (kq_pair hparts.1 hparts.2) ?_))
        rw [decide_eq_true_iff]
        constructor
        · intro h; rw [h]
        · intro h
          have h' : DS (splitPL w.text).1 = DS w.parts.1 ∧ DS (splitPL w.text).2 = DS w.parts.2 := by
            simp only [Dat.tuple.injEq, List.cons.injEq, and_true] at h
            exact h
          exact Prod.ext (DS_inj.mp h'.1) (DS_inj.mp h'.2)
end Mine
end
section
open PySem PySem.W PySem.Calls PyProof.Rows PyProof.V
namespace Mine

section
variable {C : Cx} {X Φ Φ' : Led} {ρ ρ' : Loc} {s s' : Shared} {pos : Pos} {Q : Out → Prop}
theorem SxJ.tryQuiet {body : List Stmt} {h₀ : ExceptHandler} {hs : List ExceptHandler}
    (h : ExJ C ρ body (fun o => match o with | .exc _ _ => False | o => Q o)) : SxJ C ρ (.Try body (h₀ :: hs) [] [] pos) Q := fun X Φ f s H => by
  refine wpAny_Try_except (wpAny_mono (h X Φ f s H) (fun fl s1 hd => ?_) fun e s1 hd => ?_)
  · obtain ⟨Φ', o, g1, g2, g3⟩ := hd
    have go : Done C X Φ Q fl s1 := ⟨Φ', o, g1, by cases o <;> first | exact g2 | exact g2.elim, g3⟩
    cases fl with
    | next => exact wpAny_execs_nil go
    | brk => exact go
    | cont => exact go
    | ret v => exact go
  · obtain ⟨_, _, _, _, _, q, _⟩ := hd
    exact q.elim
end

theorem FnJ.introV {nm : Str} {lv : Nat} {pr : Arguments} {bd : List Stmt} {sc : Scope} {x y : Str} {d0 : Dat} {ds : List Dat} {r : AV} (hdef : defOf nm P.main.body = some (pr, bd, sc)) (hf : nm ∈ fnNames)
    (hbind : ∀ doc pm an cd ct (v : Value) (vs : List Value), vs.length = ds.length → bindArgs (fnOf nm nm pr bd sc .none .none doc pm an cd ct) ⟨v :: vs, []⟩ = (newTuple vs >>= fun t => pure [(x, v), (y, t)]))
    (hz : ds.length ≤ 1000) (hnd : [x, y].Nodup) (hcn : ((cellsFrom 0 sc.names []).map (·.1)).Nodup) (hkd : ∀ z ∈ [x, y], sc.names.lookup z = some .local ∨ sc.names.lookup z = some .cell)
    (body : ∀ p : FnP, (fnC nm sc lv p).A.handled = none → ExJ (fnC nm sc lv p) [(x, .dat d0), (y, .dat (.tuple ds))] bd (RetIs r))
    (hsk : sc.kind = .function := by rfl) (hco : sc.isCoroutine = false := by rfl) (hg : sc.isGenerator = false := by rfl) : FnJ nm (lv + 1) (d0 :: ds) r := by
  intro w mg mb hB A stk Φ s vs0 a S hD0 ha
  cases hD0 with
  | cons hv hD => ?_
  rename_i v vs
  have hlen := hD.length
  refine callCore (ns := [x, y]) (ds := [d0, .tuple ds]) (Z := RetZ stk r) S ha hdef hf (fun doc pm an cd ct => ?_) rfl hnd hcn hkd body (fun zz1 zz2 zz3 zz4 zz5 h => retZ h) (fun zz1 zz2 zz3 zz4 zz5 h => (retE h).elim) hsk hco hg
  rw [hbind doc pm an cd ct v vs hlen]
  refine wpAny_bind (wpAny_newTuple (wpAny_pure ?_) (by rw [hlen, sizeLine_eq]; lia))
  -- the tuple is in the ledger
  generalize hT : ({ cls := .type "tuple", data := .seq vs.toArray } : Obj) = T
  have hTd : ∃ xs n, T.data = .seq xs n := hT ▸ ⟨_, _, rfl⟩
  have hTm : (s.heap.objs.size, ({ cls := .type "tuple", data := .seq vs.toArray } : Obj)) ∈ (s.heap.objs.size, T) :: Φ := hT ▸ List.Mem.head _
  have k1 : ∀ b o, s.heap.get? b = some o → (s.heap.push T).get? b = some o := fun b o e => Heap.get?_push_of_some _ e
  have ht0 : s.heap.get? s.heap.objs.size = none := Heap.get?_none_of_le (Nat.le_refl _)
  have sub1 : ∀ p ∈ Φ, p ∈ (s.heap.objs.size, T) :: Φ := fun p hp => .tail _ hp
  have ld : ∀ p ∈ (s.heap.objs.size, T) :: Φ, (s.heap.push T).get? p.1 = some p.2 := List.forall_mem_cons.mpr ⟨Heap.get?_push_size _ (hT ▸ rfl), fun p hp => k1 _ _ (S.led p hp)⟩
  refine ⟨[v, .ref s.heap.objs.size], (s.heap.objs.size, T) :: Φ, rfl, .cons (DatIn.mono sub1 hv) (.one (.tuple hTm (hD.mono sub1))),
    { wd := S.wd, base := fun b o e => k1 b o (S.base b o e), frames := S.frames, stk := S.stk.upto (.of k1 : Upto [] _ _), hand := S.hand, room := S.room, led := ld, seq := List.forall_mem_cons.mpr ⟨hTd, S.seq⟩, above := ?_ }, fun res s2 h => ?_⟩
  · show _ ≤ (s.heap.push T).objs.size
    rw [Heap.size_push]; exact Nat.le_succ_of_le S.above
  · obtain ⟨u, Φ', e, hu, L⟩ := h
    refine ⟨u, Φ', e, hu, fun p hp => L.sub p (sub1 p hp), fun p hp => ?_, (Upto.of k1).trans L.upto, L.gens, L.os⟩
    rcases L.new p hp with q | ⟨q1, q2, q3⟩
    · rcases List.mem_cons.mp q with rfl | q
      · refine .inr ⟨L.upto.off _ _ (ld _ (.head _)) fun hb => ?_, ht0, hTd⟩
        obtain ⟨_, o, es, n, ho, _⟩ := S.stk.at hb
        exact absurd (ho.symm.trans ht0) nofun
      · exact .inl q
    · refine .inr ⟨q1, ?_, q3⟩
      cases q' : s.heap.get? p.1 with
      | none => rfl
      | some o => exact absurd ((k1 _ _ q').symm.trans q2) nofun

section
variable {C : Cx} {X Φ Φ' : Led} {ρ ρ' : Loc} {s s' : Shared} {ds : List Dat} {e : Expr} {cp np sp : Pos}
theorem notIter_list {prog : Program} {w : World} {A : Around} {E : Value → Shared → Prop} {l : Addr} {items : Array Value} {Q : Bool → Shared → Prop} (hl : s.heap.IsList l items) (h : Q false s) : wpAny (model prog w) A (notIterableAtAll (.ref l)) Q E s := by
  unfold notIterableAtAll
  refine wpAny_bind (wpAny_specialOf hl.typeIs slot_list_iter.lookup ?_)
  exact wpAny_pure h
theorem EvJ.callStar {nm : Str} {lv : Nat} {r : AV} (hf : FnJ nm lv ds r) (hh : C.A.handled = none) (ha : EvJ C ρ e (.dat (.list ds))) (hz : ds.length ≤ 1000) (hl : lv ≤ C.lv := by exact Nat.le_of_ble_eq_true rfl) (hnm : nm ∈ fnNames := by decide +kernel)
    (hk : C.env.kindOf nm = some .globalImplicit := by rfl) (ht : backTo cp (starEach [.Starred e sp] C.env) = [(true, do let v ← eval e C.env; standAt cp; pure v)] := by rfl) (hd : (nm == ("__debug__" : Str)) = false := by decide) :
    EvJ C ρ (.Call (.Name nm np) [.Starred e sp] [] cp) r := fun X Φ f s H => by
  have ok := H.ok
  obtain ⟨a, o, pr, bd, sc, doc, pm, an, cd, ct, e', hm, ho, hdt, hc⟩ := ok.wd.fns nm hnm
  refine Call_Name ht (Name_function_global ok.kind hk (loadGlobal_global (env := C.env) (by rw [ok.glob]; exact ok.wd.g.keeps H.fr.keep) hm ?_) hd)
  refine callWith_function (o := o) (fd := fnOf nm nm pr bd sc .none .none doc pm an cd ct) ?_
  unfold evalArgs
  refine wpAny_bind (wpAny_bind (wpAny_mono (ha X Φ f s H) (fun v s1 ⟨Φ1, g1, H1, i1⟩ => ?_) fun zz1 zz2 f => f))
  refine wpAny_bind (wpAny_standAt (wpAny_pure ?_))
  refine wpAny_bind (wpAny_pure ?_)
  obtain ⟨l, vs, n, rfl, hm1, hD⟩ := DatIn.listInv i1
  have hlen := hD.length
  have hL : s1.heap.IsList l vs.toArray := ⟨_, H1.led _ hm1, rfl, _, rfl⟩
  refine wpAny_holding ?_
  refine wpAny_bind (wpAny_pure (wpAny_bind (wpAny_bind (notIter_list hL ?_))))
  show wpAny _ _ (holding [] (collect (.ref l))) _ _ s1
  refine wpAny_holding (collect_list hL ?_ (by rw [hlen, sizeLine_eq]; lia))
  refine wpAny_pure ⟨⟨?_, hdt⟩, ?_⟩
  · have k : ∀ b o, s1.heap.get? b = some o → ((s1.heap.push (seqObj "list" #[] 0)).update s1.heap.objs.size (Obj.mapSeq (· ++ vs.toArray))).get? b = some o := fun b o e => by
      have hlt := Heap.lt_size e
      rw [Heap.get?_update_other _ _ (Ne.symm (Nat.ne_of_lt hlt))]
      exact Heap.get?_push_of_some _ e
    exact k _ _ (H1.fr.keep _ _ ho)
  · have k : ∀ b o, s1.heap.get? b = some o → ((s1.heap.push (seqObj "list" #[] 0)).update s1.heap.objs.size (Obj.mapSeq (· ++ vs.toArray))).get? b = some o := fun b o e => by
      have hlt := Heap.lt_size e
      rw [Heap.get?_update_other _ _ (Ne.symm (Nat.ne_of_lt hlt))]
      exact Heap.get?_push_of_some _ e
    have H2 := AtM.keeps H1 (s' := { s1 with heap := (s1.heap.push (seqObj "list" #[] 0)).update s1.heap.objs.size (Obj.mapSeq (· ++ vs.toArray)) }) k rfl rfl
    show wpAny (model P C.w) C.A (PySem.call (.ref a) vs []) _ _ _
    refine wpAny_call (codeAny_mono (hf C.w C.mg C.mb C.hB C.A C.stk Φ1 _ vs a (H2.site hh hl) hD hm) fun res s2 ⟨v, Φ2, e, i, L⟩ => ?_)
    subst e
    exact ⟨Φ2, fun p hp => L.sub p (g1 p hp), H2.left L, i⟩
end

noncomputable def joinStep (path b : List Nat) : List Nat :=
  if b.head? = some 47 ∨ path = [] then b else if path.getLast? = some 47 then path ++ b else path ++ 47 :: b
theorem joinStep_len (a b : List Nat) : (joinStep a b).length ≤ a.length + b.length + 1 := by
  unfold joinStep
  split
  · lia
  · split <;> simp <;> lia
theorem j_join (a : List Nat) (bs : List (List Nat)) (hb : bs.length = 1 ∨ bs.length = 2 ∨ bs.length = 3) (hz : a.length ≤ 1000) (hbz : ∀ b ∈ bs, b.length ≤ 1000) : FnJ "join" 2 (DS a :: bs.map DS) (.dat (DS (bs.foldl joinStep a))) := by
  refine FnJ.introV (x := "a") (y := "p") (pr := parsOf "join") (bd := bodyOf "join") (sc := scopeOf "join") (by rfl) (by decide +kernel) ?_ (by simp; lia) (by decide +kernel) (by decide +kernel) (by decide +kernel) ?_
  · intro doc pm an cd ct v
    rw [List.length_map]
    rcases hb with h | h | h
    · rw [h]; exact len1 fun a => rfl
    · rw [h]; exact len2 fun a b => rfl
    · rw [h]; exact len3 fun a b c => rfl
  intro p hh
  refine ExJ.cons (SxJ.assign (EvJ.callL (j_fspath a) hh (.cons (EvJ.name rfl) .nil)) (.loc rfl) ?_)
  refine ExJ.cons (SxJ.assign (EvJ.callL (j_sep a) hh (.cons (EvJ.name rfl) .nil)) (.loc rfl) ?_)
  refine ExJ.cons (SxJ.assign (EvJ.name rfl) (.loc rfl) ?_)
  let acc : Nat → List Nat := fun i => (bs.take i).foldl joinStep a
  have hacc : ∀ i, (acc i).length ≤ 1000 + 1001 * i := fun i => by
    induction i with
    | zero => exact Nat.le_trans hz (by lia)
    | succ i ih =>
      show ((bs.take (i + 1)).foldl joinStep a).length ≤ _
      rcases Nat.lt_or_ge i bs.length with h | h
      · rw [List.take_succ_eq_append_getElem h, List.foldl_append]
        have h1 := joinStep_len (acc i) bs[i]
        have h2 := hbz _ (List.getElem_mem h)
        show (joinStep (acc i) bs[i]).length ≤ _
        lia
      · rw [List.take_of_length_le (by lia)]
        have : acc i = bs.foldl joinStep a := by show (bs.take i).foldl joinStep a = _; rw [List.take_of_length_le h]
        rw [this] at ih; lia
  have hb3 : bs.length ≤ 3 := by lia
  refine ExJ.cons (SxJ.tryQuiet (ExJ.cons (SxJ.forE (ItJ.tup (EvJ.name rfl)) hh (fun ns e => by cases e; exact kept_all (by rfl))
    (fun i => [("sep", .dat (DS [47])), ("path", .dat (DS (acc i)))]) (.cons rfl (.cons rfl .nil)) (fun i g hg => ?_) ?_)))
  · rw [List.map_map, List.getElem?_map] at hg
    obtain ⟨b, hc, rfl⟩ := Option.map_eq_some_iff.mp hg
    have hil : i < bs.length := (List.getElem?_eq_some_iff.mp hc).1
    have hbl := hbz b (List.mem_of_getElem? hc)
    have hst : acc (i + 1) = joinStep (acc i) b := by
      show (bs.take (i + 1)).foldl _ _ = _
      rw [List.take_add_one, hc, List.foldl_append]
      rfl
    have hal := hacc i
    have hal2 : (acc i).length ≤ 5000 := by lia
    rw [hst]
    generalize acc i = u at hal2 ⊢
    refine ExJ.cons (SxJ.assign (EvJ.callL (j_fspath b) hh (.cons (EvJ.name rfl) .nil)) (.loc rfl) ?_)
    refine ExJ.cons (SxJ.ifs (TvJ.orT (TvJ.val (EvJ.meth1 (EvJ.name rfl) (EvJ.name rfl) (meth_starts (l := b) 47)) tr_bool) fun zz1 => TvJ.orT (TvJ.notT (TvJ.val (EvJ.name rfl) (tr_str (x := u) (by lia)))) fun zz1 => .orNil) (fun h => ?_) fun h => ?_)
    · have h1 : b.head? = some 47 ∨ u = [] := by simpa using h
      refine ExJ.cons (SxJ.assign (EvJ.name rfl) (.loc rfl) (ExJ.nil (ExJ.nil ?_)))
      simp only [joinStep, if_pos h1]
      exact .cons rfl (.cons rfl .nil)
    · have h1 : ¬ (b.head? = some 47 ∨ u = []) := by simpa using h
      refine ExJ.cons (SxJ.ifs (TvJ.val (EvJ.meth1 (EvJ.name rfl) (EvJ.name rfl) (meth_ends (l := u) 47)) tr_bool) (fun h => ?_) fun h => ?_)
      · have h2 : u.getLast? = some 47 := of_decide_eq_true h
        refine ExJ.cons (SxJ.aug rfl (.loc rfl) (EvJ.name rfl) (op_iaddS (x := u) (y := b) (by lia)) (ExJ.nil (ExJ.nil (ExJ.nil ?_))))
        simp only [joinStep, if_neg h1, if_pos h2]
        exact .cons rfl (.cons rfl .nil)
      · have h2 : ¬ u.getLast? = some 47 := of_decide_eq_false h
        refine ExJ.cons (SxJ.aug rfl (.loc rfl) (EvJ.binop (EvJ.name rfl) (EvJ.name rfl) (op_addS (x := [47]) (y := b) (by simp; lia))) (op_iaddS (x := u) (y := [47] ++ b) (by simp; lia)) (ExJ.nil (ExJ.nil (ExJ.nil ?_))))
        simp only [joinStep, if_neg h1, if_neg h2]
        exact .cons rfl (.cons rfl .nil)
  · simp only [List.length_map]
    have : acc bs.length = bs.foldl joinStep a := by show (bs.take bs.length).foldl _ _ = _; rw [List.take_length]
    rw [this]
    exact ExJ.nil (ExJ.cons (SxJ.ret (EvJ.name rfl) rfl))
end Mine
end
section
open PySem PySem.W PySem.Calls PyProof.Rows PyProof.V
namespace Mine

section
variable {C : Cx} {X Xi Φ Φ' : Led} {ρ ρ' : Loc} {m : Str → Option Value} {ow : List OwnE} {s s' : Shared}

theorem AtM.slots {h' : Heap} {tk : Nat} (H : AtM C X Φ ρ m ow s) (hs : Heap.SlotsOnly (frs C.stk) s.heap h') : AtM C X Φ ρ m ow { s with heap := h', toks := tk } :=
  H.upto (s' := { s with heap := h', toks := tk }) ⟨fun b o e n => (hs.2.1 b n).trans e, hs.2.2⟩ (fun zz1 h => h) (fun zz1 h => .inl h) rfl rfl
theorem AtM.driftF {L : Addr} {o : Obj} {fs : Array Value} {h' : Heap} {tk : Nat} (H : AtM C X Φ ρ m ow s) (I : Idle C X Φ ow L) (hL : s.heap.get? L = some o) (hf : o.data = .fields fs) (hs : Heap.SameBut L s.heap h') : AtM C X Φ ρ m ow { s with heap := h', toks := tk } := by
  have k : ∀ {b o}, b ≠ L → s.heap.get? b = some o → h'.get? b = some o := fun {b o} hb e => (hs.2 b hb).trans e
  have n0 : ∀ {b o}, C.h₀.get? b = some o → b ≠ L := fun {b o} e q => by rw [q, I.h0] at e; cases e
  have nc : ∀ {c w}, s.heap.IsCell c w → h'.IsCell c w := fun {c w} ⟨o, ho, hd⟩ => ⟨o, k (fun q => by
    rw [q, hL] at ho; cases ho
    rw [hf] at hd; cases hd) ho, hd⟩
  have hmut : ∀ a ∈ muts C ow, a ≠ L := fun a ha q => I.mts (q ▸ ha)
  refine { H with fr := ⟨?_, fun b o e => k (n0 (H.baseIn b o e)) (H.fr.keep b o e), H.fr.above⟩, keep := ⟨fun b o e n => k (n0 e) (H.keep.off b o e n), fun b o e => ?_⟩, stk := fun env he => ?_, led := fun p hp => k (I.led p hp) (H.led p hp), xtr := fun p hp => k (I.xtr p hp) (H.xtr p hp), own := fun q hq => k (hmut _ (.tail _ (List.mem_append_right _ (List.mem_map.mpr ⟨q, hq, rfl⟩)))) (H.own q hq), cells := fun q hq => ?_, loc := fun y b e => ?_ }
  · obtain ⟨o, es, ep, ho, hd, r⟩ := H.fr.ns
    exact ⟨o, es, ep, k (hmut _ (.head _)) ho, hd, r⟩
  · obtain ⟨sl, e'⟩ := H.keep.on b o e
    exact ⟨sl, k (n0 e) e'⟩
  · obtain ⟨hk, F, o, es, n, hf, hb, ho, hd⟩ := H.stk env he
    exact ⟨hk, F, o, es, n, hf, hb, k (fun q => I.stk (q ▸ List.mem_filterMap.mpr ⟨env, he, hf⟩)) ho, hd⟩
  · obtain ⟨w, hi⟩ := H.cells q hq
    exact ⟨w, nc hi⟩
  · obtain ⟨u, hs', hr⟩ := H.loc y b e
    refine ⟨u, ?_, hr⟩
    rcases hs' with hs' | ⟨hk, c, hc, hi⟩
    · exact .inl hs'
    · exact .inr ⟨hk, c, hc, nc hi⟩
theorem AtM.idle {a : Addr} {o : Obj} {fs : Array Value} (H : AtM C X Φ ρ m ow s) (ho : s.heap.get? a = some o) (hd : o.data = .fields fs) (h0 : C.h₀.get? a = none) (hX : ∀ p ∈ X, p.1 ≠ a) : Idle C X Φ ow a := by
  refine ⟨fun hm => ?_, fun p hp e => ?_, hX, h0, fun hm => ?_⟩
  · rcases List.mem_cons.mp hm with q | q
    · exact H.ne_loc ho (fun es n e => by rw [hd] at e; cases e) q
    · rcases List.mem_append.mp q with q | q
      · obtain ⟨r, hr, e⟩ := List.mem_map.mp q
        obtain ⟨v, o', ho', hd'⟩ := H.cells r hr
        rw [e, ho] at ho'; cases ho'
        rw [hd] at hd'; cases hd'
      · obtain ⟨r, hr, e⟩ := List.mem_map.mp q
        have := H.own r hr
        rw [e, ho] at this; cases this
        cases hd
  · have h1 := H.led p hp
    obtain ⟨xs, n, h2⟩ := H.seq p hp
    rw [e, ho] at h1
    have : o = p.2 := Option.some.inj h1
    rw [← this, hd] at h2; cases h2
  · obtain ⟨_, o', es, n, ho', hd'⟩ := H.stk.at hm
    rw [ho] at ho'; cases ho'
    rw [hd] at hd'; cases hd'
theorem AtM.new0 {a : Addr} (H : AtM C X Φ ρ m ow s) (h : s.heap.get? a = none) : C.h₀.get? a = none ∧ ∀ p ∈ X, p.1 ≠ a := by
  refine ⟨?_, fun p hp e => ?_⟩
  · cases q : C.h₀.get? a with
    | none => rfl
    | some o =>
      obtain ⟨sl, e'⟩ := H.keep.on _ _ q
      rw [h] at e'; cases e'
  · have := H.xtr p hp
    rw [e, h] at this; cases this

theorem entryGo {M : Model} {E : Value → Shared → Prop} {Q : Unit → Shared → Prop} {f : Fm} {outer : List Env} {L a : Addr} {ob : Obj} {vs : Array Value} {head x1 : Value} {hadNext : Bool} {n : String × Bool}
    (H : AtF C X Φ ρ f s) (hstk : C.stk = C.env :: outer) (hf : C.env.frame = some L) (ha : s.heap.get? a = some ob) (hc : ob.cls = .type n.1) (hd : ob.data = .fields vs) (h0 : C.h₀.get? a = none) (hX : ∀ p ∈ X, p.1 ≠ a) (h2 : n.2 = true → vs[2]? = some .none)
    (h1 : vs[1]? = some x1) (hq : ∀ s', AtF C X Φ ρ f s' → XIn C X s' (.ref a) n false → Q () s') :
    wpAny M C.A (do let a' ← frameOf C.env; let pl ← entryPlaceOf L hadNext; let b ← EntryCells.newEntry head a' .none (rawInt L) .none pl; setField (.ref a) 1 b) Q E s := by
  have hfr : C.A.frames = some (C.env :: outer) := hstk ▸ H.ok.stk
  have hl : s.heap.FunFrames C.hB (C.env :: outer) := hstk ▸ H.stk.fun
  refine wpAny_bind (wpAny_frameOf_fun hfr hl hf fun h₁ hs₁ => ?_)
  refine wpAny_bind (wpAny_entryPlaceOf fun pl hpl => ?_)
  unfold EntryCells.newEntry newFields
  refine wpAny_bind (wpAny_newObj_type ?_ (hpl.sizeOk5 _ _ _ _ _))
  have I := AtM.idle H ha hd h0 hX
  have he₁ : h₁.get? a = some ob := (hs₁.2.1 a (by rw [← hstk]; exact I.stk)).trans ha
  have H1 := AtM.slots (h' := h₁) (tk := s.toks) H (by rw [show frs C.stk = (C.env :: outer).filterMap (·.frame) from by rw [hstk]; rfl]; exact hs₁)
  generalize hTo : ({ cls := .type "traceback", dict := none, data := .fields ([head, .ref L, .none, rawInt L, .none] ++ (if pl.isEmpty then List.replicate 6 Value.none else pl)).toArray } : Obj) = oT
  have hTd : oT.data = .fields ([head, .ref L, .none, rawInt L, .none] ++ (if pl.isEmpty then List.replicate 6 Value.none else pl)).toArray := by rw [← hTo]
  have hTf : oT.isFreed = false := by rw [← hTo]; rfl
  have H2 := AtM.garbage H1 oT s.toks
  have he₂ : (h₁.push oT).get? a = some ob := Heap.get?_push_of_some _ he₁
  have hT2 : (h₁.push oT).get? h₁.objs.size = some oT := Heap.get?_push_size _ hTf
  refine wpAny_setField he₂ hd (Array.getElem?_eq_some_iff.mp h1).1 ?_
  have hTa : h₁.objs.size ≠ a := Nat.ne_of_gt (Heap.lt_size he₁)
  have I2 := AtM.idle H2 he₂ hd h0 hX
  have hsb : Heap.SameBut a (h₁.push oT) ((h₁.push oT).update a (Obj.mapFields (·.setIfInBounds 1 (Value.ref h₁.objs.size)))) := Heap.SameBut.update ..
  have H3 := AtM.driftF (tk := s.toks) H2 I2 he₂ hd hsb
  have hd₃ := Obj.data_mapFields hd (·.setIfInBounds 1 (Value.ref h₁.objs.size))
  have nn := AtM.new0 H1 (a := h₁.objs.size) (Heap.get?_none_of_le (Nat.le_refl _))
  refine hq _ H3 ⟨a, _, _, rfl, Heap.get?_update_self _ he₂ (Obj.isFreed_of_fields hd₃), (Obj.cls_mapFields _ _).trans hc, hd₃, h0, hX, fun hn => ?_, .inr ⟨h₁.objs.size, oT, _, L, ?_, hTa, (hsb.2 _ hTa).trans hT2, hTd, hf, ?_, nn.1, nn.2⟩⟩
  · rw [Array.getElem?_setIfInBounds_ne (by decide)]; exact h2 hn
  · simp [(Array.getElem?_eq_some_iff.mp h1).1]
  · simp

theorem noteGo {M : Model} {E : Value → Shared → Prop} {Q : Unit → Shared → Prop} {f : Fm} {e : Value} {n : String × Bool} {new : Bool} (H : AtF C X Φ ρ f s) (hstk : ∃ outer, C.stk = C.env :: outer) (hx : XIn C X s e n new)
    (hq : ∀ s', AtF C X Φ ρ f s' → XIn C X s' e n false → Q () s') : wpAny M C.A (noteFrame e C.env) Q E s := by
  obtain ⟨outer, hstk⟩ := hstk
  obtain ⟨L, hL, _⟩ := H.ok.frame
  obtain ⟨a, ob, vs, rfl, ha, hc, hd, h0, hX, h2, hcase⟩ := hx
  rcases hcase with ⟨rfl, h1⟩ | ⟨T, oT, ts, f1, h1, hTa, hT, hdT, hf1, h3, hT0, hTX⟩
  · unfold noteFrame
    simp only [hL]
    refine wpAny_bind (wpAny_field ha hd h1 ?_)
    rw [if_neg (by decide)]
    exact entryGo H hstk hL ha hc hd h0 hX h2 h1 hq
  · rw [hL] at hf1; cases hf1
    cases new with
    | false =>
      have h3' : ts[3]? = some (rawInt L) := by rw [h3, if_neg (by decide)]
      exact wpAny_noteFrame_inFlight hL ha hd h1 hT hdT h3' (hq s H ⟨a, ob, vs, rfl, ha, hc, hd, h0, hX, h2, .inr ⟨T, oT, ts, L, h1, hTa, hT, hdT, hL, by rw [h3', if_neg (by decide)], hT0, hTX⟩⟩)
    | true =>
      have h3' : ts[3]? = some .none := by rw [h3, if_pos rfl]
      unfold noteFrame
      simp only [hL]
      refine wpAny_bind (wpAny_field ha hd h1 ?_)
      rw [if_pos (show (Value.ref T != Value.none) = true from by simp)]
      refine wpAny_bind (wpAny_field hT hdT h3' ?_)
      rw [if_neg (show ¬ ((Value.none == rawInt L) = true) from by simp [rawInt])]
      refine wpAny_bind (wpAny_setField hT hdT (Array.getElem?_eq_some_iff.mp h3').1 ?_)
      have I := AtM.idle H hT hdT hT0 hTX
      have hsb : Heap.SameBut T s.heap (s.heap.update T (Obj.mapFields (·.setIfInBounds 3 Value.none))) := Heap.SameBut.update ..
      have H1 := AtM.driftF (tk := s.toks) H I hT hdT hsb
      exact entryGo H1 hstk hL ((hsb.2 a (Ne.symm hTa)).trans ha) hc hd h0 hX h2 h1 hq

inductive Tbd (s : Shared) (e : Value) : Prop
  | mk (a : Addr) (ob : Obj) (vs : Array Value) (T : Addr) (he : e = .ref a) (ha : s.heap.get? a = some ob) (hd : ob.data = .fields vs) (h1 : vs[1]? = some (.ref T)) : Tbd s e
theorem XIn.tbd {e : Value} {n : String × Bool} (hx : XIn C X s e n false) : Tbd s e := by
  obtain ⟨a, ob, vs, rfl, ha, hc, hd, h0, hX, h2, hcase⟩ := hx
  rcases hcase with ⟨q, _⟩ | ⟨T, oT, ts, f1, h1, r⟩
  · cases q
  · exact ⟨a, ob, vs, T, rfl, ha, hd, h1⟩
theorem flightGo {M : Model} {A : Around} {E : Value → Shared → Prop} {Q : Unit → Shared → Prop} {f : Fm} {e : Value} {n : String × Bool} {old new : Bool} {fr : Option Addr} (H : AtF C X Φ ρ f s) (hx : XIn C X s e n old) (htb : Tbd s e) (hfr : fr = if new = true then none else C.env.frame)
    (hq : ∀ s', AtF C X Φ ρ f s' → XIn C X s' e n new → Tbd s' e → Q () s') : wpAny M A (setFlight e fr) Q E s := by
  obtain ⟨a, ob, vs, rfl, ha, hc, hd, h0, hX, h2, hcase⟩ := hx
  rcases hcase with ⟨_, q⟩ | ⟨T, oT, ts, f1, h1, hTa, hT, hdT, hf1, h3, hT0, hTX⟩
  · obtain ⟨a', ob', vs', T', e1, e2, e3, e4⟩ := htb
    cases e1
    rw [ha] at e2; cases e2
    rw [hd] at e3; cases e3
    rw [q] at e4; cases e4
  · unfold setFlight
    refine wpAny_bind (wpAny_field ha hd h1 ?_)
    rw [if_pos (show (Value.ref T != Value.none) = true from by simp)]
    have hsz := (Array.getElem?_eq_some_iff.mp h3).1
    refine wpAny_setField hT hdT hsz ?_
    have I := AtM.idle H hT hdT hT0 hTX
    have hsb : Heap.SameBut T s.heap (s.heap.update T (Obj.mapFields (·.setIfInBounds 3 (fr.elim Value.none fun f => rawInt f)))) := Heap.SameBut.update ..
    have H1 := AtM.driftF (tk := s.toks) H I hT hdT hsb
    have hd₃ := Obj.data_mapFields hdT (·.setIfInBounds 3 (fr.elim Value.none fun f => rawInt f))
    have ha' := (hsb.2 a (Ne.symm hTa)).trans ha
    refine hq _ H1 ⟨a, ob, vs, rfl, ha', hc, hd, h0, hX, h2, .inr ⟨T, _, _, f1, h1, hTa, Heap.get?_update_self _ hT (Obj.isFreed_of_fields hd₃), hd₃, hf1, ?_, hT0, hTX⟩⟩ ⟨a, ob, vs, T, rfl, ha', hd, h1⟩
    rw [hfr, hf1]
    cases new <;> simp [hsz]
theorem cameGo {M : Model} {A : Around} {E : Value → Shared → Prop} {f : Fm} {e : Value} {n : String × Bool} (H : AtF C X Φ ρ f s) (hx : XIn C X s e n false)
    (hq : ∀ s', AtF C X Φ ρ f s' → XIn C X s' e n false → E e s') : cameBackBy M A C.env E e s := by
  unfold cameBackBy
  have hx' := hx
  obtain ⟨a, ob, vs, rfl, ha, hc, hd, h0, hX, h2, hcase⟩ := hx
  rcases hcase with ⟨q, _⟩ | ⟨T, oT, ts, f1, h1, r⟩
  · cases q
  · refine wpAny_bind (wpAny_field ha hd h1 ?_)
    rw [if_neg (show ¬ ((Value.ref T == Value.none) = true) from by simp)]
    exact flightGo (new := false) H hx' (XIn.tbd hx') rfl fun s' H' hx2 zz1 => hq s' H' hx2
end
end Mine
end
section
open PySem PySem.W PySem.Calls PyProof.Rows PyProof.V
namespace Mine

noncomputable def reC (C : Cx) (h₀ : Heap) (Φ₀ : Led) (A : Around) : Cx := { C with h₀ := h₀, Φ₀ := Φ₀, A := A }
structure Minus (C : Cx) (X : Led) (ow : List OwnE) (h hm : Heap) : Prop where
  out : ∀ b, b ∈ muts C ow ∨ b ∈ X.map (·.1) → hm.get? b = none
  off : ∀ b, b ∉ muts C ow → b ∉ X.map (·.1) → hm.get? b = h.get? b

section
variable {C : Cx} {X Xi Φ Φ' : Led} {ρ ρ' : Loc} {m m' : Str → Option Value} {ow ow' : List OwnE} {s s' : Shared} {hm : Heap} {A : Around}

theorem minusOf (C : Cx) (X : Led) (ow : List OwnE) (h : Heap) : ∃ hm, Minus C X ow h hm := by
  obtain ⟨hm, h1, h2⟩ := minus h (muts C ow ++ X.map (·.1))
  exact ⟨hm, fun b hb => h1 b (List.mem_append.mpr hb), fun b h3 h4 => h2 b fun h => (List.mem_append.mp h).elim h3 h4⟩
theorem Minus.sub (K : Minus C X ow s.heap hm) {b : Addr} {o : Obj} (e : hm.get? b = some o) : s.heap.get? b = some o := by
  by_cases h1 : b ∈ muts C ow
  · rw [K.out b (.inl h1)] at e; cases e
  · by_cases h2 : b ∈ X.map (·.1)
    · rw [K.out b (.inr h2)] at e; cases e
    · rw [← K.off b h1 h2]; exact e
theorem Minus.of0 (K : Minus C X ow s.heap hm) (H : AtM C X Φ ρ m ow s) {b : Addr} {o o' : Obj} (e : C.h₀.get? b = some o) (e' : s.heap.get? b = some o') : hm.get? b = some o' := by
  rw [K.off b (fun h => by have := H.fresh b h; rw [e] at this; cases this) (fun h => by
    obtain ⟨p, hp, rfl⟩ := List.mem_map.mp h
    have := H.xnew p hp; rw [e] at this; cases this)]
  exact e'
theorem Minus.none0 (K : Minus C X ow s.heap hm) (H : AtM C X Φ ρ m ow s) {b : Addr} (e : hm.get? b = none) : C.h₀.get? b = none := by
  cases q : C.h₀.get? b with
  | none => rfl
  | some o =>
    obtain ⟨sl, e'⟩ := H.keep.on b o q
    rw [K.of0 H q e'] at e; cases e

theorem AtM.rebase (H : AtM C X Φ ρ m ow s) (K : Minus C X ow s.heap hm) (hA : A.frames = C.A.frames ∧ A.depth = C.A.depth ∧ A.units = C.A.units) : AtM (reC C hm Φ A) X Φ ρ m ow s :=
  { ok :=
      { wd := H.ok.wd, kind := H.ok.kind, glob := H.ok.glob, blt := H.ok.blt, stk := hA.1.trans H.ok.stk, two := H.ok.two
        fsd := fun a ha => by
          obtain ⟨h1, o, es, n, h2, h3⟩ := H.ok.fsd a ha
          obtain ⟨sl, e'⟩ := H.keep.on a o h2
          exact ⟨h1, _, es, n, K.of0 H h2 e', h3⟩
        frame := H.ok.frame
        room := by
          have := H.ok.room
          show A.depth + C.lv ≤ 900 ∧ A.units + 20 * C.lv + 200 ≤ cLine
          rw [hA.2.1, hA.2.2]; exact this
        cel := H.ok.cel, inj := H.ok.inj }
    fr := H.fr, baseIn := fun a o e => K.of0 H (H.baseIn a o e) (H.fr.keep a o e), keep := .of fun b o e => K.sub e, stk := H.stk, led := H.led, seq := H.seq, ledm := H.ledm, xtr := H.xtr, xtrm := H.xtrm, xled := H.xled
    xnew := fun p hp => K.out _ (.inr (List.mem_map.mpr ⟨p, hp, rfl⟩)), xcel := H.xcel, xnd := H.xnd, src := fun p hp => .inl hp, own := H.own, cells := H.cells, nodup := H.nodup, nms := H.nms, fresh := fun a ha => K.out a (.inl ha), loc := H.loc, gens := H.gens, os := H.os }
theorem AtM.unbase (H0 : AtM C X Φ ρ m ow s) (K : Minus C X ow s.heap hm) (H : AtM (reC C hm Φ A) X Φ' ρ' m' ow' s') : AtM C X Φ' ρ' m' ow' s' :=
  { ok := H0.ok, fr := H.fr, baseIn := H0.baseIn
    keep := ⟨fun b o e n => by
        have h1 := H0.keep.off b o e n
        exact H.keep.off b o (K.of0 H0 e h1) n, fun b o e => by
        obtain ⟨sl, h1⟩ := H0.keep.on b o e
        obtain ⟨sl2, h2⟩ := H.keep.on b _ (K.of0 H0 e h1)
        exact ⟨sl2, h2⟩⟩
    stk := H.stk, led := H.led, seq := H.seq, ledm := H.ledm, xtr := H.xtr, xtrm := H.xtrm, xled := H.xled, xnew := H0.xnew, xcel := H.xcel, xnd := H.xnd
    src := fun p hp => by
      rcases H.src p hp with q | q
      · exact H0.src p q
      · exact .inr (K.none0 H0 q)
    own := H.own, cells := H.cells, nodup := H.nodup, nms := H.nms, fresh := fun a ha => K.none0 H0 (H.fresh a ha), loc := H.loc, gens := H.gens, os := H.os }
theorem XIn.unbase (H0 : AtM C X Φ ρ m ow s) (K : Minus C X ow s.heap hm) {e : Value} {n : String × Bool} {b : Bool} (h : XIn (reC C hm Φ A) X s' e n b) : XIn C X s' e n b := by
  obtain ⟨a, ob, vs, he, ha, hc, hd, h0, hX, h2, hcase⟩ := h
  refine ⟨a, ob, vs, he, ha, hc, hd, K.none0 H0 h0, hX, h2, hcase.imp id ?_⟩
  rintro ⟨T, oT, ts, f1, h1, hTa, hT, hdT, hf1, h3, hT0, hTX⟩
  exact ⟨T, oT, ts, f1, h1, hTa, hT, hdT, hf1, h3, K.none0 H0 hT0, hTX⟩

theorem passGo {M : Model} {f : Fm} {e : Value} {n : String × Bool} {b : Bool} {Q : Out → Prop} (H : AtF C X Φ ρ f s) (hstk : ∃ outer, C.stk = C.env :: outer) (hx : XIn C X s e n b) (hq : Q (.exc n ρ)) :
    notedBy M C.A C.env (cameBackBy M C.A C.env (DoneE C X Φ Q)) e s :=
  noteGo H hstk hx fun s' H' hx' => cameGo H' hx' fun s2 H2 hx2 => ⟨Φ, n, ρ, false, fun zz1 h => h, hq, ⟨f, H2⟩, hx2⟩
end

section
variable {C : Cx} {X Xi Φ Φ' : Led} {ρ ρ' : Loc} {s s' : Shared} {e o : Expr} {x : Str} {pos px : Pos} {Q : Out → Prop} {n : String × Bool} {ds : List Dat}

theorem SxJ.assignX (h : EvX C ρ e n) (hq : Q (.exc n ρ)) (hs : swapsWith e (some (.Name x px)) pos.line C.env = pure false := by rfl) : SxJ C ρ (.Assign [.Name x px] e pos) Q := fun X Φ f s H =>
  wpAny_Assign_Name (wpAny_mono (h X Φ f s H) (fun zz1 zz2 h => h.elim) fun e s' ⟨Φ1, g1, H1, hx⟩ => ⟨Φ1, n, ρ, true, g1, hq, ⟨f, H1⟩, hx⟩) hs

theorem SxJ.whileX (hstk : ∃ outer, C.stk = C.env :: outer) {body : List Stmt} (I : Nat → Loc → Prop) {k : Nat} {ρ₀ : Loc} (h0 : I k ρ₀) (hs : ρ₀.Sub ρ)
    (turn : ∀ k ρ, I k ρ → (∃ b, TvJ C ρ e b ∧ (b = true → ExJ C ρ body (fun o => match o with | .next ρ' => ∃ m ρ₁, m < k ∧ I m ρ₁ ∧ ρ₁.Sub ρ' | .cont ρ' => ∃ m ρ₁, m < k ∧ I m ρ₁ ∧ ρ₁.Sub ρ' | .brk ρ' => Q (.next ρ') | .ret av => Q (.ret av) | .exc n ρ' => Q (.exc n ρ'))) ∧ (b = false → Q (.next ρ))) ∨
      ∃ n, TvX C ρ e n ∧ Q (.exc n ρ)) :
    SxJ C ρ (.While e body [] pos) Q := fun X Φ f s H => by
  refine wpAny_While ?_
  refine codeAny_whileLoop (WhileI C X Φ I) ?_ k ⟨ρ₀, Φ, f, fun zz1 h => h, h0, AtM.sub H hs⟩
  rintro k s1 ⟨ρ1, Φ1, f1, g1, hI, H1⟩
  rcases turn k ρ1 hI with ⟨b, ht, hb1, hb0⟩ | ⟨n, ht, hqn⟩
  · refine ff (wpAny_mono (ht X Φ1 f1 s1 H1) (fun v s2 ⟨e2, Φ2, g2, H2⟩ => ?_) fun zz1 zz2 f => f)
    subst e2
    cases v with
    | false => exact wpAny_execs_nil ⟨Φ2, .next _, fun p hp => g2 p (g1 p hp), hb0 rfl, ⟨f1, H2⟩⟩
    | true =>
      refine wpAny_mono (hb1 rfl X Φ2 f1 s2 H2) (fun fl s3 hd => ?_) fun e s3 hd => ?_
      · obtain ⟨Φ3, o, g3, hq3, hi3⟩ := hd
        cases hi3.got
        · obtain ⟨m, ρ4, hm, hI4, hsub⟩ := hq3
          obtain ⟨f3, H3⟩ := hi3
          exact ⟨m, hm, ρ4, Φ3, f3, fun p hp => g3 p (g2 p (g1 p hp)), hI4, AtM.sub H3 hsub⟩
        · exact ⟨Φ3, .next _, fun p hp => g3 p (g2 p (g1 p hp)), hq3, hi3⟩
        · obtain ⟨m, ρ4, hm, hI4, hsub⟩ := hq3
          obtain ⟨f3, H3⟩ := hi3
          exact ⟨m, hm, ρ4, Φ3, f3, fun p hp => g3 p (g2 p (g1 p hp)), hI4, AtM.sub H3 hsub⟩
        · exact ⟨Φ3, .ret _, fun p hp => g3 p (g2 p (g1 p hp)), hq3, hi3⟩
      · obtain ⟨Φ3, n, ρ3, new, g3, hq3, ⟨f3, H3⟩, hx3⟩ := hd
        refine noteGo H3 hstk hx3 fun s4 H4 hx4 => cameGo H4 hx4 fun s5 H5 hx5 => ⟨Φ3, n, ρ3, false, fun p hp => g3 p (g2 p (g1 p hp)), hq3, ⟨f3, H5⟩, hx5⟩
  · refine wpAny_mono (ht X Φ1 f1 s1 H1) (fun zz1 zz2 h => h.elim) fun e s2 ⟨Φ2, g2, H2, hx2⟩ => ?_
    refine noteGo H2 hstk hx2 fun s4 H4 hx4 => cameGo H4 hx4 fun s5 H5 hx5 => ⟨Φ2, n, ρ1, false, fun p hp => g2 p (g1 p hp), hqn, ⟨f1, H5⟩, hx5⟩

set_option genInjectivity false in
structure MkP where
  h₀ : Heap
  Φ₀ : Led
  e : Addr
noncomputable def mkC (C : Cx) (q : MkP) : Cx := reC C q.h₀ q.Φ₀ (C.A.mark (some (.ref q.e)))
set_option genInjectivity false in
inductive MkP.Has (q : MkP) (n : String × Bool) : Prop
  | mk (ob : Obj) (vs : Array Value) (h1 : q.h₀.get? q.e = some ob) (h2 : ob.cls = .type n.1) (h3 : ob.data = .fields vs) (h4 : n.2 = true → vs[2]? = some .none) : MkP.Has q n
end
end Mine
end
section
open PySem PySem.W PySem.Calls PyProof.Rows PyProof.V
namespace Mine

theorem entry_unchain : entryFor table "proto.unchain" = some Builtin.«proto.unchain» := entryFor_of_tree (by kernel_rfl)

section
variable {prog : Program} {w : World} {A : Around} {E : Value → Shared → Prop} {s : Shared}

theorem raiseNew_in {α : Type} {a h : Addr} {oh oe : Obj} {hs es : Array Value} {Q : α → Shared → Prop} (hh : A.handled = some (.ref h)) (hne : h ≠ a) (ho : s.heap.get? h = some oh) (hd : oh.data = .fields hs) (h2 : hs[2]? = some .none)
    (hoe : s.heap.get? a = some oe) (hde : oe.data = .fields es) (hsz : 2 < es.size) (k : E (.ref a) { s with heap := s.heap.update a (Obj.mapFields (·.setIfInBounds 2 (.ref h))) }) : wpAny (model prog w) A (raiseNew (.ref a) : Sem α) Q E s := by
  unfold raiseNew
  refine wpAny_bind (wpAny_handled ?_)
  rw [hh]
  dsimp only
  rw [if_pos (show (Value.ref h != Value.ref a) = true from by simp [hne])]
  refine wpAny_bind (wpAny_holding (wpAny_runValue (codeAny_builtin entry_unchain ?_)))
  show wpAny _ _ (field (.ref h) 2 >>= fun c => _) _ _ s
  refine wpAny_bind (wpAny_field ho hd h2 ?_)
  rw [if_pos (show (Value.none == Value.none) = true from by rfl)]
  refine wpAny_pure ?_
  show wpAny (model prog w) A (do updateField a 2 (Value.ref h); throw (Value.ref a)) Q E s
  refine wpAny_bind ?_
  simp only [updateField]
  refine wpAny_bind (wpAny_load hoe ?_)
  rw [hde]
  show wpAny _ _ (if 2 < es.size then _ else _) _ _ s
  rw [if_pos hsz]
  exact wpAny_update hoe (wpAny_throw k)

structure NewIn (h h' : Heap) (e : Addr) (cls : String) : Prop where
  keeps : ∀ b o, h.get? b = some o → h'.get? b = some o
  new : h.get? e = none
  there : ∃ ob vs, h'.get? e = some ob ∧ ob.cls = .type cls ∧ ob.data = .fields vs ∧ vs[1]? = some .none
theorem raise_in {α : Type} {cls : String} {tk : Nat} {v : Value} {h : Addr} {oh : Obj} {hs : Array Value} {Q : α → Shared → Prop} (hp : PlainExc cls) (hh : A.handled = some (.ref h)) (ho : s.heap.get? h = some oh) (hd : oh.data = .fields hs) (h2 : hs[2]? = some .none)
    (k : ∀ h' e, NewIn s.heap h' e cls → E (.ref e) { s with heap := h', toks := tk }) : wpAny (model prog w) A (newExc (.type cls) [v] >>= fun e => (raiseNew e : Sem α)) Q E { s with toks := tk } := by
  refine wpAny_bind ?_
  refine wpAny_newExc_plain hp (fun h' e hm => ?_)
  obtain ⟨kp, nw, t, h3, h4, h5⟩ := hm
  have hne : h ≠ e := fun q => by
    have nw' : s.heap.get? e = none := nw
    rw [q, nw'] at ho; cases ho
  have hoe : (h'.get? e) = some { cls := .type cls, data := .fields #[.ref t, .none, .none, .none, .bool false, .none] } := h3
  refine raiseNew_in hh hne (kp _ _ ho) hd h2 hoe rfl (by simp) ?_
  refine k _ e ⟨fun b o q => ?_, nw, _, _, Heap.get?_update_self _ hoe rfl, rfl, rfl, rfl⟩
  refine (Heap.get?_update_other _ _ fun q' => ?_).trans (kp b o q)
  have nw' : s.heap.get? e = none := nw
  rw [← q', nw'] at q; cases q

theorem raiseMade_in {α : Type} {cls msg : String} {h : Addr} {oh : Obj} {hs : Array Value} {Q : α → Shared → Prop} (hp : PlainExc cls) (hh : A.handled = some (.ref h)) (ho : s.heap.get? h = some oh) (hd : oh.data = .fields hs) (h2 : hs[2]? = some .none)
    (k : ∀ h' tk e, NewIn s.heap h' e cls → E (.ref e) { s with heap := h', toks := tk }) (hm : (msg : Str).length ≤ sizeLine := by size_fits) : wpAny (model prog w) A (raiseErrorMade cls msg : Sem α) Q E s := by
  unfold raiseErrorMade
  exact wpAny_bind (wpAny_mkStr (raise_in (tk := s.toks + 1) hp hh ho hd h2 fun h' e q => k h' _ e q) hm)
theorem raiseWords_in {α : Type} {cls msg : String} {h : Addr} {oh : Obj} {hs : Array Value} {Q : α → Shared → Prop} (hp : PlainExc cls) (hh : A.handled = some (.ref h)) (ho : s.heap.get? h = some oh) (hd : oh.data = .fields hs) (h2 : hs[2]? = some .none)
    (k : ∀ h' tk e, NewIn s.heap h' e cls → E (.ref e) { s with heap := h', toks := tk }) : wpAny (model prog w) A (raiseErrorWords cls msg : Sem α) Q E s := by
  unfold raiseErrorWords
  exact wpAny_bind (wpAny_mkText (raise_in (tk := s.toks + 1) hp hh ho hd h2 fun h' e q => k h' _ e q))

theorem getItem_out_in {l : Addr} {items : Array Value} {k : Int} {t : Tok} {Q : Value → Shared → Prop} {h : Addr} {oh : Obj} {hs : Array Value} (hh : A.handled = some (.ref h)) (hoh : s.heap.get? h = some oh) (hdh : oh.data = .fields hs) (h2 : hs[2]? = some .none)
    (hl : s.heap.IsList l items) (hout : (items.size : Int) ≤ k) (hhi : k < 2 ^ 63) (hE : ∀ h' tk e, NewIn s.heap h' e "IndexError" → E (.ref e) { s with heap := h', toks := tk }) :
    wpAny (model prog w) A (getItem (.ref l) (.int k t)) Q E s := by
  obtain ⟨o, ho, hc, ne, hd⟩ := id hl
  unfold getItem
  try with_reducible refine wpAny_holding ?_
  first | refine wpAny_bind (wpAny_pure ?_) | skip
  refine wpAny_bind (wpAny_sequenceKey hl.typeIs (by decide) ?_)
  refine wpAny_bind (wpAny_callSpecial?_slot (name := Str.ofString "__getitem__") hl.typeIs slot_list_getitem
    (wpAny_call_entry slot_list_getitem hl.typeIs entry_list_getitem ?_ (args_list_getitem _ _)))
  show wpAny _ _ (Builtin.List.listSubscript? (.int k t) >>= _) _ _ s
  refine wpAny_bind (wpAny_listSubscript_int (fitsIndex_both (by lia) hhi) ?_)
  clear hhi
  cases k with
  | negSucc j => exact absurd hout (by have := Int.negSucc_lt_zero j; lia)
  | ofNat j =>
  have hx : items[j]? = none := Array.getElem?_eq_none (by have : (items.size : Int) ≤ (j : Int) := hout; lia)
  show wpAny _ _ ((seqItemAt l j >>= fun r => pure (r.map (j, ·))) >>= _) _ _ s
  refine wpAny_bind (wpAny_bind (wpAny_seqItemAt ho hd (wpAny_pure ?_)))
  rw [hx]
  first
    | exact wpAny_bind (wpAny_rule (raiseMade_in plainExc_IndexError hh hoh hdh h2 hE))
    | exact wpAny_bind (wpAny_rule (raiseWords_in plainExc_IndexError hh hoh hdh h2 hE))
    | exact wpAny_bind (wpAny_rule (wpAny_bind (raiseMade_in plainExc_IndexError hh hoh hdh h2 hE)))
    | exact wpAny_bind (wpAny_rule (wpAny_bind (raiseWords_in plainExc_IndexError hh hoh hdh h2 hE)))
    | exact wpAny_rule (raiseMade_in plainExc_IndexError hh hoh hdh h2 hE)
    | exact wpAny_rule (raiseWords_in plainExc_IndexError hh hoh hdh h2 hE)
end

section
variable {C : Cx} {X Xi Φ Φ' : Led} {ρ ρ' : Loc} {s s' : Shared} {e o r : Expr} {x : Str} {pos px : Pos} {Q : Out → Prop} {n : String × Bool} {ds : List Dat} {i : Nat}

theorem EvX.item (ho : EvJ C ρ o (.dat (.list ds))) (hi : EvJ C ρ e (.dat (.int i))) (h0 : ds.length ≤ i) (hz : i < 1000000) (hh : C.A.handled = none)
    (hs : ∀ a b u, subscripted e false (.ref a) (.int b u) = operate [.ref a, .int b u] (getItem (.ref a) (.int b u)) := by intro a b u; with_unfolding_all rfl) : EvX C ρ (.Subscript o e pos) ("IndexError", true) := fun X Φ f s H => by
  refine Subscript_ (wpAny_mono (ho X Φ f s H) (fun v1 s1 ⟨Φ1, g1, H1, i1⟩ => wpAny_mono (hi X Φ1 f s1 H1) (fun v2 s2 ⟨Φ2, g2, H2, i2⟩ => ?_) fun zz1 zz2 f => f.elim) fun zz1 zz2 f => f.elim)
  obtain ⟨a, vs, n, rfl, hm, hD⟩ := DatIn.listInv (DatIn.mono g2 i1)
  cases i2
  have hL : s2.heap.IsList a vs.toArray := ⟨_, H2.led _ hm, rfl, _, rfl⟩
  have hlen := hD.length
  refine tail_any hL.typeIs slot_list_getitem.lookup (wpAny_getItem_list_out hh hL (.inr (by rw [List.size_toArray, hlen]; lia)) (by lia) (by lia) fun h' tk e hn => ?_) (hs _ _ _)
  obtain ⟨k, nw, ob, t, h1, h2, h3⟩ := hn
  have nn := AtM.new0 H2 nw
  exact ⟨Φ2, fun p hp => g2 p (g1 p hp), AtM.keeps H2 (s' := { s2 with heap := h', toks := tk }) k rfl rfl, e, ob, _, rfl, h1, h2, h3, nn.1, nn.2, fun zz1 => rfl, .inl ⟨rfl, rfl⟩⟩
theorem EvX.itemIn {q : MkP} {nq : String} (hq : q.Has (nq, true)) (ho : EvJ (mkC C q) ρ o (.dat (.list ds))) (hi : EvJ (mkC C q) ρ e (.dat (.int i))) (h0 : ds.length ≤ i) (hz : i < 1000000) (hh : C.A.handled = none)
    (hs : ∀ a b u, subscripted e false (.ref a) (.int b u) = operate [.ref a, .int b u] (getItem (.ref a) (.int b u)) := by intro a b u; with_unfolding_all rfl) : EvX (mkC C q) ρ (.Subscript o e pos) ("IndexError", false) := fun X Φ f s H => by
  refine Subscript_ (wpAny_mono (ho X Φ f s H) (fun v1 s1 ⟨Φ1, g1, H1, i1⟩ => wpAny_mono (hi X Φ1 f s1 H1) (fun v2 s2 ⟨Φ2, g2, H2, i2⟩ => ?_) fun zz1 zz2 f => f.elim) fun zz1 zz2 f => f.elim)
  obtain ⟨a, vs, n, rfl, hm, hD⟩ := DatIn.listInv (DatIn.mono g2 i1)
  cases i2
  have hL : s2.heap.IsList a vs.toArray := ⟨_, H2.led _ hm, rfl, _, rfl⟩
  have hlen := hD.length
  obtain ⟨oq, vq, hq1, hq2, hq3, hq4⟩ := hq
  obtain ⟨sl, hq5⟩ := H2.keep.on q.e oq hq1
  refine tail_any hL.typeIs slot_list_getitem.lookup (getItem_out_in (h := q.e) (by rfl) hq5 hq3 (hq4 rfl) hL (by rw [List.size_toArray, hlen]; lia) (by lia) fun h' tk e hn => ?_) (hs _ _ _)
  obtain ⟨k, nw, ob, vs, h1, h2, h3, h4⟩ := hn
  have nn := AtM.new0 H2 nw
  exact ⟨Φ2, fun p hp => g2 p (g1 p hp), AtM.keeps H2 (s' := { s2 with heap := h', toks := tk }) k rfl rfl, e, ob, _, rfl, h1, h2, h3, nn.1, nn.2, (fun q => by cases q), .inl ⟨rfl, h4⟩⟩
theorem TvX.cmpL {cop : CmpOp} (h : EvX C ρ o n) (hm : behindInMarks cop r = false := by with_unfolding_all rfl) : TvX C ρ (.Compare o [cop] [r] pos) n := fun X Φ f s H =>
  wpAny_isTrue_Compare1 (wpAny_mono (h X Φ f s H) (fun zz1 zz2 h => h.elim) fun zz1 zz2 h => h) hm

theorem SxJ.tryFin (hstk : ∃ outer, C.stk = C.env :: outer) {body fs : List Stmt} {f₀ : Stmt}
    (h : ExJ C ρ body (fun o => match o with
      | .next ρ' => ExJ C ρ' (f₀ :: fs) (fun o => match o with | .next ρ'' => Q (.next ρ'') | .exc n ρ'' => Q (.exc n ρ'') | _ => False)
      | .exc n ρ' => ∀ q : MkP, q.Has n → ExJ (mkC C q) ρ' (f₀ :: fs) (fun o => match o with | .next ρ'' => Q (.exc n ρ'') | .exc n' ρ'' => Q (.exc n' ρ'') | _ => False)
      | _ => False)) : SxJ C ρ (.Try body [] [] (f₀ :: fs) pos) Q := fun X Φ f s H => by
  have up : ∀ {Φ1 Φ2 : Led} {e : Value} {s2 : Shared} {R : Out → Prop} {Q' : Out → Prop}, (∀ p ∈ Φ1, p ∈ Φ2) → DoneE C X Φ2 R e s2 → (∀ n ρ, R (.exc n ρ) → Q' (.exc n ρ)) → DoneE C X Φ1 Q' e s2 := by
    rintro Φ1 Φ2 e s2 R Q' g ⟨Φ3, n, ρ3, new, g3, hr, H3, hx⟩ hq
    exact ⟨Φ3, n, ρ3, new, fun p hp => g3 p (g p hp), hq _ _ hr, H3, hx⟩
  refine wpAny_Try_finally (wpAny_mono (h X Φ f s H) (fun fl s1 hd => ?_) fun e s1 hd => ?_)
  · obtain ⟨Φ1, o1, g1, hq1, hi1⟩ := hd
    cases hi1.got <;> try exact hq1.elim
    obtain ⟨f1, H1⟩ := hi1
    refine wpAny_execs_nil (wpAny_mono (hq1 X Φ1 f1 s1 H1) (fun g s2 hd2 => ?_) fun e2 s2 hd2 => ?_)
    · obtain ⟨Φ2, o2, g2, hq2, hi2⟩ := hd2
      cases hi2.got <;> try exact hq2.elim
      exact ⟨Φ2, .next _, fun p hp => g2 p (g1 p hp), hq2, hi2⟩
    · obtain ⟨Φ2, n, ρ2, new, g2, hq2, ⟨f2, H2⟩, hx2⟩ := hd2
      exact noteGo H2 hstk hx2 fun s3 H3 hx3 => cameGo H3 hx3 fun s4 H4 hx4 => ⟨Φ2, n, ρ2, false, fun p hp => g2 p (g1 p hp), hq2, ⟨f2, H4⟩, hx4⟩
  · obtain ⟨Φ1, n, ρ1, new, g1, hq1, ⟨f1, H1⟩, hx1⟩ := hd
    refine noteGo H1 hstk hx1 fun s2 H2 hx2 => ⟨?_, ?_⟩
    · obtain ⟨a, _, _, rfl, _⟩ := hx2
      exact ref_ne_byPass a
    refine noteGo H2 hstk hx2 fun s3 H3 hx3 => flightGo (new := true) H3 hx3 (XIn.tbd hx3) rfl fun s4 H4 hx4 htb4 => ?_
    obtain ⟨hm4, K4⟩ := minusOf C X f1.ow s4.heap
    obtain ⟨a, ob4, vs4, rfl, ha4, hc4, hd4, h04, hX4, h24, hcase4⟩ := id hx4
    have kept : ∀ {b : Addr} {ob : Obj} {fs : Array Value}, s4.heap.get? b = some ob → ob.data = .fields fs → C.h₀.get? b = none → (∀ p ∈ X, p.1 ≠ b) → hm4.get? b = some ob ∧ b ∉ C.fs := fun {b ob fs} h1 h2 h3 h4 => by
      have I := AtM.idle H4 h1 h2 h3 h4
      refine ⟨?_, fun hh => ?_⟩
      · rw [K4.off b I.mts fun hh => by
          obtain ⟨p, hp, e⟩ := List.mem_map.mp hh
          exact h4 p hp e]
        exact h1
      · obtain ⟨_, o, es, n, h5, _⟩ := H4.ok.fsd b hh
        rw [h3] at h5; cases h5
    have ka := kept ha4 hd4 h04 hX4
    have HM4 : AtF (mkC C ⟨hm4, Φ1, a⟩) X Φ1 ρ1 f1 s4 := AtM.rebase H4 K4 ⟨rfl, rfl, rfl⟩
    refine wpAny_mono (hq1 ⟨hm4, Φ1, a⟩ ⟨ob4, vs4, ka.1, hc4, hd4, h24⟩ X Φ1 f1 s4 HM4) (fun g s5 hd5 => ?_) fun e5 s5 hd5 => ?_
    · obtain ⟨Φ5, o5, g5, hq5, hi5⟩ := hd5
      cases hi5.got <;> try exact hq5.elim
      obtain ⟨f5, H5⟩ := hi5
      have H5' := AtM.unbase H4 K4 H5
      have ha5 : s5.heap.get? a = some ob4 := H5.keep.off a ob4 ka.1 ka.2
      have hx5 : XIn C X s5 (.ref a) n true := by
        refine ⟨a, ob4, vs4, rfl, ha5, hc4, hd4, h04, hX4, h24, hcase4.imp id ?_⟩
        rintro ⟨T, oT, ts, f9, h1, hTa, hT, hdT, hf9, h3, hT0, hTX⟩
        have kT := kept hT hdT hT0 hTX
        exact ⟨T, oT, ts, f9, h1, hTa, H5.keep.off T oT kT.1 kT.2, hdT, hf9, h3, hT0, hTX⟩
      obtain ⟨a', ob', vs', T', e1, e2, e3, e4⟩ := htb4
      cases e1
      rw [ha4] at e2; cases e2
      unfold PySem.passOn
      refine wpAny_bind (wpAny_field ha5 e3 e4 ?_)
      rw [if_neg (show ¬ ((Value.ref T' == Value.none) = true) from by simp)]
      refine wpAny_bind (flightGo (new := false) H5' hx5 ⟨a, ob4, vs', T', rfl, ha5, e3, e4⟩ rfl fun s6 H6 hx6 zz1 => ?_)
      exact wpAny_throw ⟨Φ5, n, _, false, fun p hp => g5 p (g1 p hp), hq5, ⟨f5, H6⟩, hx6⟩
    · obtain ⟨Φ5, n5, ρ5, new5, g5, hq5, ⟨f5, H5⟩, hx5⟩ := hd5
      have hstk' : ∃ outer, (mkC C ⟨hm4, Φ1, a⟩).stk = (mkC C ⟨hm4, Φ1, a⟩).env :: outer := hstk
      exact noteGo (C := mkC C ⟨hm4, Φ1, a⟩) H5 hstk' hx5 fun s6 H6 hx6 => cameGo (C := mkC C ⟨hm4, Φ1, a⟩) H6 hx6 fun s7 H7 hx7 =>
        ⟨Φ5, n5, ρ5, false, fun p hp => g5 p (g1 p hp), hq5, ⟨f5, AtM.unbase H4 K4 H7⟩, XIn.unbase H4 K4 hx7⟩
theorem tryGo {X Φ Φ' : Led} {s1 : Shared} {R : (String × Bool) → Loc → Prop} {Q : Out → Prop} {fl : Flow} {o : Out} (g1 : ∀ p ∈ Φ, p ∈ Φ') (g2 : match o with | .exc n ρ' => R n ρ' | o => Q o) (g3 : Out.Is C X Φ' s1 fl o) :
    (match (generalizing := false) fl with | .next => wpAny (model P C.w) C.A (execs [] C.env) (Done C X Φ Q) (DoneE C X Φ Q) s1 | f => Done C X Φ Q f s1) := by
  cases g3.got with
  | next h => exact wpAny_execs_nil ⟨Φ', _, g1, g2, h⟩
  | brk h => exact ⟨Φ', _, g1, g2, h⟩
  | cont h => exact ⟨Φ', _, g1, g2, h⟩
  | ret h hv => exact ⟨Φ', _, g1, g2, h, hv⟩
theorem SxJ.tryOneX (hstk : ∃ outer, C.stk = C.env :: outer) {body suite : List Stmt} {T : String} {b₀ : Stmt} {pn p1 : Pos} {R : (String × Bool) → Loc → Prop} {Tx : Str}
    (h : ExJ C ρ body (fun o => match o with | .exc n ρ' => n.1 = T ∧ R n ρ' | o => Q o))
    (hs : ∀ n ρ', n.1 = T → R n ρ' → ∀ q : MkP, q.Has n → ExJ (mkC C q) ρ' (b₀ :: suite) Q)
    (hexc : isSubtype (.type T) (.type "BaseException") = pure true) (hnt : isSubtype (.type ((Manifest.find? T).elim "type" fun x => x.metatype)) (.type "tuple") = pure false) (hsub : isSubtype (.type T) (.type T) = pure true)
    (hv : bootBuiltins Tx = some (.type T)) (hb : Tx ∈ biNames) (hk : C.env.kindOf Tx = some .globalImplicit) (hdb : (Tx == ("__debug__" : Str)) = false) :
    SxJ C ρ (.Try body [.ExceptHandler (some (.Name Tx pn)) none (b₀ :: suite) p1] [] [] pos) Q := fun X Φ f s H => by
  refine wpAny_Try_except (wpAny_mono (h X Φ f s H) (fun fl s1 hd => ?_) fun e s1 hd => ?_)
  · obtain ⟨Φ', o, g1, g2, g3⟩ := hd
    exact tryGo (R := fun n ρ' => n.1 = T ∧ R n ρ') g1 g2 g3
  · obtain ⟨Φ1, n, ρ1, new, g1, ⟨hn, hR⟩, ⟨f1, H1⟩, hx1⟩ := hd
    refine noteGo H1 hstk hx1 fun s2 H2 hx2 => flightGo (new := true) H2 hx2 (XIn.tbd hx2) rfl fun s3 H3 hx3 htb3 => ?_
    obtain ⟨hm, K⟩ := minusOf C X f1.ow s3.heap
    obtain ⟨a, ob, vs, rfl, ha, hc, hd, h0, hX, h2, hcase⟩ := id hx3
    have I := AtM.idle H3 ha hd h0 hX
    have hma : hm.get? a = some ob := by
      rw [K.off a I.mts fun hh => by
        obtain ⟨p, hp, e⟩ := List.mem_map.mp hh
        exact hX p hp e]
      exact ha
    have HM : AtF (mkC C ⟨hm, Φ1, a⟩) X Φ1 ρ1 f1 s3 := AtM.rebase H3 K ⟨rfl, rfl, rfl⟩
    refine wpAny_handleBy_builtin hexc hnt hsub ?_
    refine ff (biGo (C := mkC C ⟨hm, Φ1, a⟩) HM hb hv ?_ hk hdb)
    refine ⟨rfl, ⟨ob, ha, by rw [hc, hn]⟩, ?_⟩
    rw [if_pos rfl]
    refine flightGo (new := true) H3 hx3 htb3 rfl fun s4 H4 hx4 htb4 => ?_
    obtain ⟨hm4, K4⟩ := minusOf C X f1.ow s4.heap
    obtain ⟨a4, ob4, vs4, ea4, ha4, hc4, hd4, h04, hX4, h24, hcase4⟩ := id hx4
    cases ea4
    have I4 := AtM.idle H4 ha4 hd4 h04 hX4
    have hma4 : hm4.get? a = some ob4 := by
      rw [K4.off a I4.mts fun hh => by
        obtain ⟨p, hp, e⟩ := List.mem_map.mp hh
        exact hX4 p hp e]
      exact ha4
    have HM4 : AtF (mkC C ⟨hm4, Φ1, a⟩) X Φ1 ρ1 f1 s4 := AtM.rebase H4 K4 ⟨rfl, rfl, rfl⟩
    refine wpAny_mono (hs n ρ1 hn hR ⟨hm4, Φ1, a⟩ ⟨ob4, vs4, hma4, hc4, hd4, h24⟩ X Φ1 f1 s4 HM4) (fun fl s5 hd5 => ?_) fun e5 s5 hd5 => ?_
    · obtain ⟨Φ5, o5, g5, hq5, hi5⟩ := hd5
      refine ⟨Φ5, o5, fun p hp => g5 p (g1 p hp), hq5, ?_⟩
      have ub : ∀ {ρ'}, At (mkC C ⟨hm4, Φ1, a⟩) X Φ5 ρ' s5 → At C X Φ5 ρ' s5 := fun {ρ'} q => q.elim fun f' h => ⟨f', AtM.unbase H4 K4 h⟩
      cases hi5.got with
      | next h => exact ub h
      | brk h => exact ub h
      | cont h => exact ub h
      | ret h hv => exact ⟨ub h, hv⟩
    · obtain ⟨Φ5, n5, ρ5, new5, g5, hq5, ⟨f5, H5⟩, hx5⟩ := hd5
      have hstk' : ∃ outer, (mkC C ⟨hm4, Φ1, a⟩).stk = (mkC C ⟨hm4, Φ1, a⟩).env :: outer := hstk
      exact noteGo (C := mkC C ⟨hm4, Φ1, a⟩) H5 hstk' hx5 fun s6 H6 hx6 => cameGo (C := mkC C ⟨hm4, Φ1, a⟩) H6 hx6 fun s7 H7 hx7 =>
        ⟨Φ5, n5, ρ5, false, fun p hp => g5 p (g1 p hp), hq5, ⟨f5, AtM.unbase H4 K4 H7⟩, XIn.unbase H4 K4 hx7⟩

theorem SxJ.tryOne (hstk : ∃ outer, C.stk = C.env :: outer) {body suite : List Stmt} {T : String} {b₀ : Stmt} {pn p1 : Pos} {R : (String × Bool) → Loc → Prop} {Tx : Str}
    (h : ExJ C ρ body (fun o => match o with | .exc n ρ' => n.1 = T ∧ R n ρ' | o => Q o))
    (hs : ∀ n ρ', n.1 = T → R n ρ' → ∀ q : MkP, q.Has n → ExJ (mkC C q) ρ' (b₀ :: suite) (fun o => match o with | .exc _ _ => False | o => Q o))
    (hexc : isSubtype (.type T) (.type "BaseException") = pure true) (hnt : isSubtype (.type ((Manifest.find? T).elim "type" fun x => x.metatype)) (.type "tuple") = pure false) (hsub : isSubtype (.type T) (.type T) = pure true)
    (hv : bootBuiltins Tx = some (.type T)) (hb : Tx ∈ biNames) (hk : C.env.kindOf Tx = some .globalImplicit) (hdb : (Tx == ("__debug__" : Str)) = false) :
    SxJ C ρ (.Try body [.ExceptHandler (some (.Name Tx pn)) none (b₀ :: suite) p1] [] [] pos) Q :=
  SxJ.tryOneX hstk h (fun n ρ' h1 h2 q hq => (hs n ρ' h1 h2 q hq).mono fun o ho => by cases o <;> first | exact ho | exact ho.elim) hexc hnt hsub hv hb hk hdb
end
end Mine
end
section
open PySem PySem.W PySem.Calls PyProof.Rows PyProof.V
namespace Mine

theorem ExJ.le {C : Cx} {ρ ρ' : Loc} {b : List Stmt} {Q : Out → Prop} (h : ExJ C ρ' b Q) (hs : ρ'.Le ρ) : ExJ C ρ b Q := fun X Φ f s H => h X Φ f s (AtM.le H hs)
theorem look_nd {α : Type} {y : Str} {a : α} : ∀ {l : List (Str × α)}, (l.map (·.1)).Nodup → (y, a) ∈ l → l.lookup y = some a
  | (k, b) :: r, hn, h => by
    rw [List.map_cons, List.nodup_cons] at hn
    rw [List.lookup_cons]
    rcases List.mem_cons.mp h with e | h
    · cases e; simp
    · have : (y == k) = false := beq_eq_false_iff_ne.mpr fun e => hn.1 (e ▸ List.mem_map.mpr ⟨_, h, rfl⟩)
      rw [this]; exact look_nd hn.2 h
theorem sub_cons {ρ ρ' : Loc} {x : Str} {av : AV} (h : ρ'.Sub ρ) (hn : ∀ p ∈ ρ', p.1 ≠ x) : Loc.Sub ((x, av) :: ρ') ((x, av) :: ρ) := fun p hp => by
  rcases List.mem_cons.mp hp with rfl | hp
  · simp
  · have hb : (p.1 == x) = false := beq_eq_false_iff_ne.mpr (hn p hp)
    rw [List.lookup_cons, hb]; exact h p hp

section
variable {C : Cx} {ρ base : Loc} {L I V : Str} {p1 p2 p3 p4 p5 p6 p7 p8 p9 : Pos} {k : Nat} {xs : List (List Nat)} {x : List Nat} {i : Nat} {n : String × Bool} {Q : Out → Prop}

theorem skipW (hstk : ∃ outer, C.stk = C.env :: outer) (hI : Kept C I) (hLI : L ≠ I) (hVI : V ≠ I) {nms : List Str} (hnm : base.map (·.1) = nms) (hbn' : nms.Nodup) (hbI' : ∀ y ∈ nms, y ≠ I) (hL : (L, AV.dat (.list (xs.map DS))) ∈ base) (hV : (V, AV.dat (DS x)) ∈ base) (hz : xs.length ≤ 1000) (hi : i ≤ xs.length)
    (h0 : Loc.Sub ((I, .dat (.int i)) :: base) ρ)
    (hx : ∀ (ρ : Loc) (i : Nat), ρ.lookup L = some (.dat (.list (xs.map DS))) → ρ.lookup I = some (.dat (.int i)) → xs.length ≤ i → i < 1000000 → EvX C ρ (.Subscript (.Name L p1) (.Name I p2) p3) n)
    (hn : ∀ i', i ≤ i' → i' < xs.length → xs.drop i' = (xs.drop i).dropWhile (· == x) → Q (.next ((I, .dat (.int i')) :: base)))
    (he : (xs.drop i).dropWhile (· == x) = [] → Q (.exc n ((I, .dat (.int xs.length)) :: base)))
    (hd1 : (L == ("__debug__" : Str)) = false := by decide) (hd2 : (I == ("__debug__" : Str)) = false := by decide) (hd3 : (V == ("__debug__" : Str)) = false := by decide)
    (hc1 : (L == ("__classdict__" : Str)) = false := by decide) (hc2 : (I == ("__classdict__" : Str)) = false := by decide) (hc3 : (V == ("__classdict__" : Str)) = false := by decide) :
    SxJ C ρ (.While (.Compare (.Subscript (.Name L p1) (.Name I p2) p3) [.Eq] [.Name V p4] p5) [.AugAssign (.Name I p6) .Add (.Constant (.int 1) k p7) p8] [] p9) Q := by
  have hbn : (base.map (·.1)).Nodup := hnm ▸ hbn'
  have hbI : ∀ p ∈ base, p.1 ≠ I := fun p hp => hbI' p.1 (hnm ▸ List.mem_map.mpr ⟨p, hp, rfl⟩)
  have look : ∀ {y : Str} {av : AV}, (y, av) ∈ base → y ≠ I → ∀ i : Nat, ((I, AV.dat (.int i)) :: base : Loc).lookup y = some av := fun {y av} hm hy i => by
    rw [List.lookup_cons, show (y == I) = false from beq_eq_false_iff_ne.mpr hy]
    exact look_nd hbn hm
  have lookI : ∀ i : Nat, ((I, AV.dat (.int i)) :: base : Loc).lookup I = some (.dat (.int i)) := fun i => by simp
  refine SxJ.whileX hstk (fun m ρ => ∃ i', i ≤ i' ∧ i' ≤ xs.length ∧ m = xs.length - i' ∧ (xs.drop i').dropWhile (· == x) = (xs.drop i).dropWhile (· == x) ∧ ρ = (((I, .dat (.int i')) :: base) : Loc)) (k := xs.length - i)
    ⟨i, Nat.le_refl _, hi, rfl, rfl, rfl⟩ h0 ?_
  rintro m ρ ⟨i', h1, h2, rfl, h3, rfl⟩
  rcases Nat.lt_or_eq_of_le h2 with hlt | rfl
  · left
    have hg : xs[i']? = some xs[i'] := List.getElem?_eq_getElem hlt
    refine ⟨decide (xs[i'] = x), TvJ.cmp (EvJ.item (EvJ.name (look hL hLI i') hd1 hc1) (EvJ.name (lookI i') hd2 hc2) (by lia) (d := DS xs[i']) (by rw [List.getElem?_map]; simp [hlt]) (by lia)) (EvJ.name (look hV hVI i') hd3 hc3) (op_eqS (x := xs[i']) (y := x)), fun h => ?_, fun h => ?_⟩
    · have he : xs[i'] = x := of_decide_eq_true h
      refine ExJ.cons (SxJ.aug (lookI i') hI EvJ.intC op_iadd (ExJ.nil ?_) hc2)
      refine ⟨xs.length - (i' + 1), _, by lia, ⟨i' + 1, by lia, hlt, rfl, ?_, rfl⟩, ?_⟩
      · rw [← h3, List.drop_eq_getElem_cons hlt, List.dropWhile_cons_of_pos (by simp [he])]
      · intro p hp
        rcases List.mem_cons.mp hp with rfl | hp
        · simp
        · have hb : (p.1 == I) = false := beq_eq_false_iff_ne.mpr (hbI p hp)
          rw [List.lookup_cons, hb, List.lookup_cons, hb]
          exact look_nd hbn hp
    · have he : xs[i'] ≠ x := of_decide_eq_false h
      refine hn i' h1 hlt ?_
      rw [← h3, List.drop_eq_getElem_cons hlt, List.dropWhile_cons_of_neg (by simp [he])]
  · right
    refine ⟨n, TvX.cmpL (hx _ xs.length (look hL hLI _) (lookI _) (Nat.le_refl _) (by lia)), he ?_⟩
    rw [← h3]; simp
end

noncomputable def sld : Nat → List (List Nat) → List (List Nat) → List (List Nat) × List (List Nat)
  | 0, xs, ys => (xs, ys)
  | k + 1, x :: xs, y :: ys =>
    if x < y then (x :: (sld k (xs.dropWhile (· == x)) (y :: ys)).1, (sld k (xs.dropWhile (· == x)) (y :: ys)).2)
    else if y < x then ((sld k (x :: xs) (ys.dropWhile (· == y))).1, y :: (sld k (x :: xs) (ys.dropWhile (· == y))).2)
    else sld k (xs.dropWhile (· == x)) (ys.dropWhile (· == y))
  | _ + 1, xs, ys => (xs, ys)
theorem sld_nilL (k : Nat) (ys : List (List Nat)) : sld k [] ys = ([], ys) := by cases k <;> rfl
theorem sld_nilR (k : Nat) (xs : List (List Nat)) : sld k xs [] = (xs, []) := by cases k <;> cases xs <;> rfl

noncomputable def stL (xs ys : List (List Nat)) (i j : Nat) (M U : List (List Nat)) : Loc :=
  [("expected", .dat (.list (xs.map DS))), ("actual", .dat (.list (ys.map DS))), ("i", .dat (.int i)), ("j", .dat (.int j)), ("missing", .own (M.map DS)), ("unexpected", .own (U.map DS))]

noncomputable def SldE (res : List (List Nat) × List (List Nat)) (n : Nat) (X Y M U : List (List Nat)) : Prop := res = (M ++ (sld n X Y).1, U ++ (sld n X Y).2)
section
variable {res : List (List Nat) × List (List Nat)} {n : Nat} {X X' X2 Y Y' Y2 M U : List (List Nat)} {x y : List Nat}
theorem snoc_app {α : Type} (l r : List α) (a : α) : l ++ a :: r = l ++ [a] ++ r := by rw [List.append_assoc]; rfl
theorem sld_cons : sld (n + 1) (x :: X) (y :: Y) = if x < y then (x :: (sld n (X.dropWhile (· == x)) (y :: Y)).1, (sld n (X.dropWhile (· == x)) (y :: Y)).2)
    else if y < x then ((sld n (x :: X) (Y.dropWhile (· == y))).1, y :: (sld n (x :: X) (Y.dropWhile (· == y))).2) else sld n (X.dropWhile (· == x)) (Y.dropWhile (· == y)) := rfl
theorem sldE_lt (h : SldE res (n + 1) X Y M U) (hX : X = x :: X') (hY : Y = y :: Y') (hlt : x < y) (h3 : X2 = X'.dropWhile (· == x)) : SldE res n X2 Y (M ++ [x]) U := by
  subst hX h3 hY
  unfold SldE at h ⊢
  rw [h, sld_cons, if_pos hlt]; exact Prod.ext (snoc_app _ _ _) rfl
theorem sldE_gt (h : SldE res (n + 1) X Y M U) (hX : X = x :: X') (hY : Y = y :: Y') (hlt : ¬ x < y) (hgt : y < x) (h3 : Y2 = Y'.dropWhile (· == y)) : SldE res n X Y2 M (U ++ [y]) := by
  subst hX h3 hY
  unfold SldE at h ⊢
  rw [h, sld_cons, if_neg hlt, if_pos hgt]; exact Prod.ext rfl (snoc_app _ _ _)
theorem sldE_eq (h : SldE res (n + 1) X Y M U) (hX : X = x :: X') (hY : Y = y :: Y') (hlt : ¬ x < y) (hgt : ¬ y < x) (h3 : X2 = X'.dropWhile (· == x)) (h4 : Y2 = Y'.dropWhile (· == y)) : SldE res n X2 Y2 M U := by
  subst hX h3 hY h4
  unfold SldE at h ⊢
  rw [h, sld_cons, if_neg hlt, if_neg hgt]
theorem sldE_nilL (h : SldE res n [] Y M U) (xs : List (List Nat)) : res = (M ++ xs.drop xs.length, U ++ Y) := by
  rw [SldE, sld_nilL] at h
  rw [List.drop_length]; exact h
theorem sldE_nilR (h : SldE res n X [] M U) (ys : List (List Nat)) : res = (M ++ X, U ++ ys.drop ys.length) := by
  rw [SldE, sld_nilR] at h
  rw [List.drop_length]; exact h
theorem snoc_le {α : Type} {l : List α} {a : α} {i i' : Nat} (h : l.length ≤ i) (h2 : i + 1 ≤ i') : (l ++ [a]).length ≤ i' := by
  rw [List.length_append]; exact Nat.le_trans (Nat.succ_le_succ h) h2
end

inductive SldI (xs ys : List (List Nat)) (res : List (List Nat) × List (List Nat)) (n : Nat) (ρ : Loc) : Prop
  | mk (i j : Nat) (M U : List (List Nat)) (hi : i ≤ xs.length) (hj : j ≤ ys.length) (hM : M.length ≤ i) (hU : U.length ≤ j) (hn : (xs.length - i) + (ys.length - j) ≤ n)
    (hF : SldE res n (xs.drop i) (ys.drop j) M U) (e : ρ = stL xs ys i j M U) : SldI xs ys res n ρ
inductive SldR (xs ys : List (List Nat)) (res : List (List Nat) × List (List Nat)) (ρ' : Loc) : Prop
  | mk (i j : Nat) (M U : List (List Nat)) (hi : i ≤ xs.length) (hj : j ≤ ys.length) (hM : M.length ≤ i) (hU : U.length ≤ j) (hF : res = (M ++ xs.drop i, U ++ ys.drop j)) (hs : (stL xs ys i j M U).Sub ρ') : SldR xs ys res ρ'
set_option maxHeartbeats 4000000 in
theorem j_sld (xs ys : List (List Nat)) (hx : xs.length ≤ 500) (hy : ys.length ≤ 500) :
    FnJ "sorted_list_difference" 1 [.list (xs.map DS), .list (ys.map DS)] (.dat (.tuple [.list ((sld (xs.length + ys.length) xs ys).1.map DS), .list ((sld (xs.length + ys.length) xs ys).2.map DS)])) := by
  refine FnJ.intro (ns := ["expected", "actual"]) (pr := parsOf "sorted_list_difference") (bd := bodyOf "sorted_list_difference") (sc := scopeOf "sorted_list_difference") (by rfl) (by decide +kernel) (fun doc pm an cd ct => len2 fun a b => rfl) rfl (by decide +kernel) (by decide +kernel) (by decide +kernel) ?_
  intro p hh
  generalize hres : sld (xs.length + ys.length) xs ys = res
  have hstk : ∃ outer, (fnC "sorted_list_difference" (scopeOf "sorted_list_difference") 0 p).stk = (fnC "sorted_list_difference" (scopeOf "sorted_list_difference") 0 p).env :: outer := ⟨_, rfl⟩
  refine ExJ.cons (SxJ.assign2 EvJ.intC (.loc rfl) (.loc rfl) ?_)
  refine ExJ.cons (SxJ.assignNil (.loc rfl) ?_)
  refine ExJ.cons (SxJ.assignNil (.loc rfl) ?_)
  let Q : Out → Prop := fun o => match o with | .next ρ' => Loc.Sub [("missing", .own (res.1.map DS)), ("unexpected", .own (res.2.map DS))] ρ' | _ => False
  refine ExJ.cons (SxJ.mono (Q := Q) (SxJ.whileX hstk (SldI xs ys res) (k := xs.length + ys.length)
      ⟨0, 0, [], [], Nat.zero_le _, Nat.zero_le _, Nat.le_refl _, Nat.le_refl _, Nat.le_refl _, hres.symm, rfl⟩ (.cons rfl (.cons rfl (.cons rfl (.cons rfl (.cons rfl (.cons rfl .nil)))))) ?_) ?_)
  rotate_left
  · intro o ho
    cases o with
    | next ρ' =>
      refine ExJ.sub ?_ ho
      refine ExJ.freeze (x := "missing") rfl (ExJ.freeze (x := "unexpected") rfl ?_)
      exact ExJ.cons (SxJ.ret (EvJ.tupE (.cons (EvJ.name rfl) (.cons (EvJ.name rfl) .nil))) rfl)
    | _ => exact ho.elim
  · rintro n ρ ⟨i, j, M, U, hi, hj, hM, hU, hn, hF, rfl⟩
    left
    refine ⟨true, TvJ.val EvJ.boolC tr_bool, fun zz1 => ?_, fun h => by cases h⟩
    let R : (String × Bool) → Loc → Prop := fun zz1 ρ' => SldR xs ys res ρ'
    have hM1 : (M.map DS).length ≤ 500 := lenD (Nat.le_trans hM (Nat.le_trans hi hx))
    have hU1 : (U.map DS).length ≤ 500 := lenD (Nat.le_trans hU (Nat.le_trans hj hy))
    have hMl : M.length ≤ xs.length := Nat.le_trans hM hi
    have hUl : U.length ≤ ys.length := Nat.le_trans hU hj
    refine ExJ.cons (SxJ.tryOne hstk (T := "IndexError") (R := R) ?_ ?_ (by rw [isSubtype_type]; kernel_rfl) (by rw [isSubtype_type]; kernel_rfl) (by rw [isSubtype_type]; kernel_rfl) (by rfl) (by decide +kernel) (by rfl) (by decide))
    · rcases Nat.lt_or_eq_of_le hi with hil | rfl
      · refine ExJ.cons (SxJ.assign (EvJ.item (d := DS xs[i]) (EvJ.name rfl) (EvJ.name rfl) (by lia) (mapGet hil) (by lia)) (.loc rfl) ?_)
        rcases Nat.lt_or_eq_of_le hj with hjl | rfl
        · refine ExJ.cons (SxJ.assign (EvJ.item (d := DS ys[j]) (EvJ.name rfl) (EvJ.name rfl) (by lia) (mapGet hjl) (by lia)) (.loc rfl) ?_)
          obtain ⟨n, rfl⟩ : ∃ k, n = k + 1 := ⟨n - 1, by lia⟩
          have hdi := List.drop_eq_getElem_cons hil
          have hdj := List.drop_eq_getElem_cons hjl
          generalize xs[i] = x at hdi ⊢
          generalize ys[j] = y at hdj ⊢
          refine ExJ.cons (SxJ.ifs (TvJ.cmp (EvJ.name rfl) (EvJ.name rfl) (op_ltS (x := x) (y := y))) (fun h => ?_) fun h => ?_)
          · have hlt : x < y := of_decide_eq_true h
            refine ExJ.cons (SxJ.append rfl (EvJ.name rfl) (by lia) ?_)
            rw [mapSnoc]
            refine ExJ.cons (SxJ.aug rfl (.loc rfl) EvJ.intC op_iadd ?_)
            refine ExJ.cons (skipW hstk (base := [("e", .dat (DS x)), ("expected", .dat (.list (xs.map DS))), ("actual", .dat (.list (ys.map DS))), ("j", .dat (.int j)), ("missing", .own ((M ++ [x]).map DS)), ("unexpected", .own (U.map DS))]) (i := i + 1) (xs := xs) (x := x) (nms := ["e", "expected", "actual", "j", "missing", "unexpected"])
              (.loc rfl) (by decide) (by decide) rfl (by decide +kernel) (by decide +kernel) (.tail _ (.head _)) (.head _) (by lia) hil (.cons rfl (.cons rfl (.cons rfl (.cons rfl (.cons rfl (.cons rfl (.cons rfl .nil))))))) (fun ρ i h1 h2 h3 h4 => EvX.item (EvJ.name h1) (EvJ.name h2) (lenD h3) h4 hh) (fun i' h1 h2 h3 => ?_) (fun h1 => ?_))
            · refine ExJ.nil (ExJ.nil (ExJ.nil ?_))
              exact ⟨n, _, by lia, ⟨i', j, M ++ [x], U, Nat.le_of_lt h2, hj, snoc_le hM h1, hU, by lia, sldE_lt hF hdi hdj hlt h3, rfl⟩, .cons rfl (.cons rfl (.cons rfl (.cons rfl (.cons rfl (.cons rfl .nil)))))⟩
            · exact ⟨rfl, xs.length, j, M ++ [x], U, Nat.le_refl _, hj, snoc_le hM hil, hU, sldE_nilL (sldE_lt hF hdi hdj hlt h1.symm) xs, .cons rfl (.cons rfl (.cons rfl (.cons rfl (.cons rfl (.cons rfl .nil)))))⟩
          · have hlt : ¬ x < y := of_decide_eq_false h
            refine ExJ.cons (SxJ.ifs (TvJ.cmp (EvJ.name rfl) (EvJ.name rfl) (op_gtS (x := x) (y := y))) (fun h => ?_) fun h => ?_)
            · have hgt : y < x := of_decide_eq_true h
              refine ExJ.cons (SxJ.append rfl (EvJ.name rfl) (by lia) ?_)
              rw [mapSnoc]
              refine ExJ.cons (SxJ.aug rfl (.loc rfl) EvJ.intC op_iadd ?_)
              refine ExJ.cons (skipW hstk (base := [("a", .dat (DS y)), ("expected", .dat (.list (xs.map DS))), ("actual", .dat (.list (ys.map DS))), ("i", .dat (.int i)), ("missing", .own (M.map DS)), ("unexpected", .own ((U ++ [y]).map DS))]) (i := j + 1) (xs := ys) (x := y) (nms := ["a", "expected", "actual", "i", "missing", "unexpected"])
                (.loc rfl) (by decide) (by decide) rfl (by decide +kernel) (by decide +kernel) (.tail _ (.tail _ (.head _))) (.head _) (by lia) hjl (.cons rfl (.cons rfl (.cons rfl (.cons rfl (.cons rfl (.cons rfl (.cons rfl .nil))))))) (fun ρ i h1 h2 h3 h4 => EvX.item (EvJ.name h1) (EvJ.name h2) (lenD h3) h4 hh) (fun j' h1 h2 h3 => ?_) (fun h1 => ?_))
              · refine ExJ.nil (ExJ.nil (ExJ.nil (ExJ.nil ?_)))
                exact ⟨n, _, by lia, ⟨i, j', M, U ++ [y], hi, Nat.le_of_lt h2, hM, snoc_le hU h1, by lia, sldE_gt hF hdi hdj hlt hgt h3, rfl⟩, .cons rfl (.cons rfl (.cons rfl (.cons rfl (.cons rfl (.cons rfl .nil)))))⟩
              · exact ⟨rfl, i, ys.length, M, U ++ [y], hi, Nat.le_refl _, hM, snoc_le hU hjl, sldE_nilR (sldE_gt hF hdi hdj hlt hgt h1.symm) ys, .cons rfl (.cons rfl (.cons rfl (.cons rfl (.cons rfl (.cons rfl .nil)))))⟩
            · have hgt : ¬ y < x := of_decide_eq_false h
              refine ExJ.cons (SxJ.aug rfl (.loc rfl) EvJ.intC op_iadd ?_)
              refine ExJ.cons (SxJ.tryFin hstk (ExJ.cons (skipW hstk (base := [("e", .dat (DS x)), ("a", .dat (DS y)), ("expected", .dat (.list (xs.map DS))), ("actual", .dat (.list (ys.map DS))), ("j", .dat (.int j)), ("missing", .own (M.map DS)), ("unexpected", .own (U.map DS))]) (i := i + 1) (xs := xs) (x := x) (nms := ["e", "a", "expected", "actual", "j", "missing", "unexpected"])
                (.loc rfl) (by decide) (by decide) rfl (by decide +kernel) (by decide +kernel) (.tail _ (.tail _ (.head _))) (.head _) (by lia) hil (.cons rfl (.cons rfl (.cons rfl (.cons rfl (.cons rfl (.cons rfl (.cons rfl (.cons rfl .nil)))))))) (fun ρ i h1 h2 h3 h4 => EvX.item (EvJ.name h1) (EvJ.name h2) (lenD h3) h4 hh) (fun i' g1 g2 g3 => ExJ.nil ?_) (fun g3 q hq => ?_))))
              · refine ExJ.cons (SxJ.aug rfl (.loc rfl) EvJ.intC op_iadd ?_)
                have hMi : M.length ≤ i' := Nat.le_trans hM (Nat.le_of_succ_le g1)
                refine ExJ.cons (skipW hstk (base := [("a", .dat (DS y)), ("expected", .dat (.list (xs.map DS))), ("actual", .dat (.list (ys.map DS))), ("i", .dat (.int i')), ("missing", .own (M.map DS)), ("unexpected", .own (U.map DS))]) (i := j + 1) (xs := ys) (x := y) (nms := ["a", "expected", "actual", "i", "missing", "unexpected"])
                  (.loc rfl) (by decide) (by decide) rfl (by decide +kernel) (by decide +kernel) (.tail _ (.tail _ (.head _))) (.head _) (by lia) hjl (.cons rfl (.cons rfl (.cons rfl (.cons rfl (.cons rfl (.cons rfl (.cons rfl .nil))))))) (fun ρ i h1 h2 h3 h4 => EvX.item (EvJ.name h1) (EvJ.name h2) (lenD h3) h4 hh) (fun j' h1 h2 h3 => ?_) (fun h1 => ?_))
                · refine ExJ.nil (ExJ.nil (ExJ.nil (ExJ.nil (ExJ.nil ?_))))
                  exact ⟨n, _, by lia, ⟨i', j', M, U, Nat.le_of_lt g2, Nat.le_of_lt h2, hMi, Nat.le_trans hU (Nat.le_of_succ_le h1), by lia, sldE_eq hF hdi hdj hlt hgt g3 h3, rfl⟩, .cons rfl (.cons rfl (.cons rfl (.cons rfl (.cons rfl (.cons rfl .nil)))))⟩
                · exact ⟨rfl, i', ys.length, M, U, Nat.le_of_lt g2, Nat.le_refl _, hMi, hUl, sldE_nilR (sldE_eq hF hdi hdj hlt hgt g3 h1.symm) ys, .cons rfl (.cons rfl (.cons rfl (.cons rfl (.cons rfl (.cons rfl .nil)))))⟩
              · refine ExJ.cons (SxJ.aug rfl (.loc rfl) EvJ.intC op_iadd ?_)
                refine ExJ.cons (skipW (C := mkC _ q) hstk (n := ("IndexError", false)) (base := [("a", .dat (DS y)), ("expected", .dat (.list (xs.map DS))), ("actual", .dat (.list (ys.map DS))), ("i", .dat (.int xs.length)), ("missing", .own (M.map DS)), ("unexpected", .own (U.map DS))]) (i := j + 1) (xs := ys) (x := y) (nms := ["a", "expected", "actual", "i", "missing", "unexpected"])
                  (.loc rfl) (by decide) (by decide) rfl (by decide +kernel) (by decide +kernel) (.tail _ (.tail _ (.head _))) (.head _) (by lia) hjl (.cons rfl (.cons rfl (.cons rfl (.cons rfl (.cons rfl (.cons rfl (.cons rfl .nil))))))) (fun ρ i h1 h2 h3 h4 => EvX.itemIn hq (EvJ.name h1) (EvJ.name h2) (lenD h3) h4 hh) (fun j' h1 h2 h3 => ?_) (fun h1 => ?_))
                · exact ExJ.nil ⟨rfl, xs.length, j', M, U, Nat.le_refl _, Nat.le_of_lt h2, hMl, Nat.le_trans hU (Nat.le_of_succ_le h1), sldE_nilL (sldE_eq hF hdi hdj hlt hgt g3.symm h3) xs, .cons rfl (.cons rfl (.cons rfl (.cons rfl (.cons rfl (.cons rfl .nil)))))⟩
                · exact ⟨rfl, xs.length, ys.length, M, U, Nat.le_refl _, Nat.le_refl _, hMl, hUl, sldE_nilL (Y := ys.drop ys.length) (by rw [List.drop_length]; exact sldE_eq hF hdi hdj hlt hgt g3.symm h1.symm) xs, .cons rfl (.cons rfl (.cons rfl (.cons rfl (.cons rfl (.cons rfl .nil)))))⟩
        · rw [List.drop_length] at hF
          exact ExJ.cons (SxJ.assignX (EvX.item (EvJ.name rfl) (EvJ.name rfl) (lenD (Nat.le_refl _)) (by lia) hh) ⟨rfl, i, ys.length, M, U, hi, hj, hM, hU, sldE_nilR hF ys, .cons rfl (.cons rfl (.cons rfl (.cons rfl (.cons rfl (.cons rfl .nil)))))⟩)
      · rw [List.drop_length] at hF
        exact ExJ.cons (SxJ.assignX (EvX.item (EvJ.name rfl) (EvJ.name rfl) (lenD (Nat.le_refl _)) (by lia) hh) ⟨rfl, xs.length, j, M, U, hi, hj, hM, hU, sldE_nilL hF xs, .cons rfl (.cons rfl (.cons rfl (.cons rfl (.cons rfl (.cons rfl .nil)))))⟩)
    · rintro nn ρ' _ ⟨i, j, M, U, hi, hj, hM, hU, rfl, hsub⟩ q hq
      refine ExJ.sub ?_ hsub
      have e1 : sl (some (i : Int)) none (xs.map DS) = (xs.drop i).map DS := by rw [sl_drop, List.map_drop]
      have e2 : sl (some (j : Int)) none (ys.map DS) = (ys.drop j).map DS := by rw [sl_drop, List.map_drop]
      have l1 : ((xs.drop i).map DS).length ≤ 500 := lenD (by rw [List.length_drop]; lia)
      have l2 : ((ys.drop j).map DS).length ≤ 500 := lenD (by rw [List.length_drop]; lia)
      have l3 : (M.map DS).length ≤ 500 := lenD (by lia)
      have l4 : (U.map DS).length ≤ 500 := lenD (by lia)
      refine ExJ.cons (SxJ.extend rfl (EvJ.sliceL (EvJ.name rfl) (.some (EvJ.name rfl)) .none (lenD (by lia))) (by rw [e1]; lia) ?_)
      refine ExJ.cons (SxJ.extend rfl (EvJ.sliceL (EvJ.name rfl) (.some (EvJ.name rfl)) .none (lenD (by lia))) (by rw [e2]; lia) ?_)
      refine ExJ.cons (SxJ.brk ?_)
      rw [e1, e2]
      show Loc.Sub _ _
      exact .cons (by rw [List.map_append]; rfl) (.cons (by rw [List.map_append]; rfl) .nil)
end Mine
end
section
open PySem PySem.W PySem.Calls PyProof.Rows PyProof.V PySem.Spec
namespace Mine

noncomputable def LtAt (A : Around) (s : Shared) (v u : Value) (r : Bool) : Prop := ∀ (prog : Program) (w : World) (E : Value → Shared → Prop) (Q : Value → Shared → Prop), Q (.bool r) s → wpAny (model prog w) A (richCompare .Lt v u) Q E s
noncomputable def QAt (A : Around) (s : Shared) (v u : Value) (r : Bool) : Prop := ∀ (prog : Program) (w : World) (E : Value → Shared → Prop) (Q : Bool → Shared → Prop), Q r s → wpAny (model prog w) A (eqBool v u) Q E s
inductive LexAt (A : Around) (s : Shared) : List Value → List Value → Bool → Prop
  | nil : LexAt A s [] [] false
  | nilL (y : Value) (ys : List Value) : LexAt A s [] (y :: ys) true
  | nilR (x : Value) (xs : List Value) : LexAt A s (x :: xs) [] false
  | eq {x y : Value} {xs ys : List Value} {r : Bool} (h : QAt A s x y true) (t : LexAt A s xs ys r) : LexAt A s (x :: xs) (y :: ys) r
  | ne {x y : Value} {xs ys : List Value} {r : Bool} (h : QAt A s x y false) (t : LtAt A s x y r) : LexAt A s (x :: xs) (y :: ys) r

section
variable {prog : Program} {w : World} {A : Around} {E : Value → Shared → Prop} {s : Shared}
theorem tupLtLoop {A' : Around} {R : Option Fin × Unit → Shared → Prop} {xs ys : List Value} {r : Bool} (h : LexAt A' s xs ys r) : (∀ st : Option Fin × Unit, (st.1 = some (.done (.ret (.bool r))) ∨ (st.1 = none ∧ decide (xs.length < ys.length) = r)) → R st s) → wpAny (model prog w) A' (forIn (xs.zip ys) ((none : Option Fin), ()) fun x __s => do
            let __do_lift ← eqBool x.fst x.snd
            if (!__do_lift) = true then do
                rule "tuple.compare.by-the-first-pair-that-differs"
                let __do_lift ← richCompare CmpOp.Lt x.fst x.snd
                let __do_lift ← ret __do_lift
                pure (ForInStep.done (some __do_lift, ()))
              else pure (ForInStep.yield (none, ()))) R E s := by
  induction h with
  | nil => exact fun hr => wpAny_pure (hr _ (.inr ⟨rfl, by simp⟩))
  | nilL y ys => exact fun hr => wpAny_pure (hr _ (.inr ⟨rfl, by simp⟩))
  | nilR x xs => exact fun hr => wpAny_pure (hr _ (.inr ⟨rfl, by simp⟩))
  | @eq x y xs ys r h t ih =>
    intro hr
    rw [List.zip_cons_cons, List.forIn_cons]
    refine wpAny_bind (wpAny_bind (h _ _ _ _ ?_))
    rw [if_neg (by decide)]
    refine wpAny_pure ?_
    exact ih fun st hst => hr st (hst.imp id fun ⟨h1, h2⟩ => ⟨h1, by simpa using h2⟩)
  | @ne x y xs ys r h t =>
    intro hr
    rw [List.zip_cons_cons, List.forIn_cons]
    refine wpAny_bind (wpAny_bind (h _ _ _ _ ?_))
    rw [if_pos (by decide)]
    refine wpAny_bind (wpAny_rule (wpAny_bind (t _ _ _ _ ?_)))
    refine wpAny_bind (wpAny_pure (wpAny_pure ?_))
    exact wpAny_pure (hr _ (.inl rfl))
theorem tupLt {a b : Addr} {xs ys : List Value} {r : Bool} (hu : A.units < cLine) (ha : IsTup s.heap a xs.toArray) (hb : IsTup s.heap b ys.toArray) (h : LexAt A.in1 s xs ys r) : LtAt A s (.ref a) (.ref b) r := fun prog w E Q hq => by
  have hTa : s.TypeIs (.ref a) "tuple" := by obtain ⟨o, ho, hc, _⟩ := ha; exact ⟨o, ho, hc⟩
  have hTb : s.TypeIs (.ref b) "tuple" := by obtain ⟨o, ho, hc, _⟩ := hb; exact ⟨o, ho, hc⟩
  refine wpAny_richCompare_same_room (op := .Lt) (T := "tuple") hTa hTb F.slot_tuple_lt (wpAny_call_entry F.slot_tuple_lt hTa F.entry_tuple_lt ?_ (F.args_tuple_lt_2 _ _)) hu
  show wpAny _ _ (isInstance (.ref b) (.type "tuple") >>= fun r => _) _ E s
  refine wpAny_bind (wpAny_isInstance hTb F.isi_sub_tuple ?_)
  refine wpAny_bind (tupleItemsOf_ ha ?_)
  refine wpAny_bind (tupleItemsOf_ hb ?_)
  simp only [List.size_toArray]
  refine wpAny_bind (tupLtLoop h fun st hst => ?_)
  rcases hst with h1 | ⟨h1, h2⟩
  · rw [h1]
    exact wpAny_pure ⟨_, rfl, by simp, hq⟩
  · rw [h1]
    refine wpAny_pure ⟨_, rfl, ?_, ?_⟩
    · simp [Builtin.Tuple.tupleCompareSizes]
    · simp only [Builtin.Tuple.tupleCompareSizes]
      rw [h2]; exact hq
end

theorem LexAt.ends {A : Around} {s : Shared} {u v : List Value} {r : Bool} (h : LexAt A s u v r) (he : u = [] ∨ v = []) : r = decide (u.length < v.length) := by
  cases h with
  | nil => rfl
  | nilL y ys => simp
  | nilR x xs => simp
  | eq h t => rcases he with e | e <;> cases e
  | ne h t => rcases he with e | e <;> cases e
open PySem.Builtin AutoSeq1 MeetsSeq MeetsSeq2 MeetsSeq3 SeqRoads2 in
theorem lt_loopAt (l b : Addr) (xs ys : List Value) (n n2 : Nat) (r : Bool) (k : Nat) :
    ∀ i : Nat, xs.length - i = k → i ≤ xs.length → i ≤ ys.length → Meets (Builtin.«list.__eq__.loop» ⟨[.ref l, .ref b, rawInt i, rawInt 0], []⟩)
      (fun A R s => s.heap.get? l = some { cls := .type "list", dict := none, data := .seq xs.toArray n, slots := #[] } ∧ s.heap.get? b = some { cls := .type "list", dict := none, data := .seq ys.toArray n2, slots := #[] } ∧
        LexAt A.in1 s (xs.drop i) (ys.drop i) r ∧ R (.ok (.ret (.bool r))) s) := by
  induction k with
  | zero =>
    intro i hk hix hiy prog w A R s h
    obtain ⟨hp, g, d, tk, os⟩ := s; obtain ⟨hl, hb, he, h⟩ := h
    wp_walk using wpAny_loadPart' hl, wpAny_loadPart' hb
    have hi1 : xs.toArray[((i : Nat) : Int).toNat]? = none := by simp; omega
    rw [hi1]
    wp_walk using wpAny_loadPart' hl, wpAny_loadPart' hb
    show R (.ok (.ret (.bool (decide (xs.toArray.size < ys.toArray.size))))) _
    have hx0 : xs.drop i = [] := List.drop_eq_nil_of_le (by omega)
    have hr := he.ends (.inl hx0)
    rw [List.size_toArray, List.size_toArray]
    have : decide (xs.length < ys.length) = r := by
      rw [hr]
      simp only [List.length_drop]
      by_cases q : xs.length < ys.length
      · rw [decide_eq_true q]; exact (decide_eq_true (by omega)).symm
      · rw [decide_eq_false q]; exact (decide_eq_false (by omega)).symm
    rw [this]; exact h
  | succ k ih =>
    intro i hk hix hiy prog w A R s h
    obtain ⟨hp, g, d, tk, os⟩ := s; obtain ⟨hl, hb, he, h⟩ := h
    wp_walk using wpAny_loadPart' hl, wpAny_loadPart' hb
    have hlt : i < xs.length := by omega
    have hi1 : xs.toArray[((i : Nat) : Int).toNat]? = some xs[i] := by simp [hlt]
    have hc : ((i : Int) + 1) = ((i + 1 : Nat) : Int) := by push_cast; rfl
    rcases Nat.lt_or_ge i ys.length with hlt2 | hge
    · have hi2 : ys.toArray[((i : Nat) : Int).toNat]? = some ys[i] := by simp [hlt2]
      rw [hi1, hi2]
      rw [List.drop_eq_getElem_cons hlt, List.drop_eq_getElem_cons hlt2] at he
      generalize xs[i] = x at he hi1 ⊢
      generalize ys[i] = y at he hi2 ⊢
      generalize hu : xs.drop (i + 1) = u at he
      generalize hv : ys.drop (i + 1) = v at he
      cases he with
      | eq hq ht =>
        refine wpAny_bind (hq prog w _ _ ?_)
        wp_walk
        rw [hc]
        exact ⟨plainId_quiet plain_eq_loop _, codeAny_builtin entry_eq_loop (by
          rw [Around.under_plainId plain_eq_loop _]
          exact ih (i + 1) (by omega) (by omega) (by omega) prog w A R _ ⟨hl, hb, by rw [hu, hv]; exact ht, h⟩)⟩
      | ne hq ht =>
        refine wpAny_bind (hq prog w _ _ ?_)
        wp_walk using wpAny_loadPart' hl, wpAny_loadPart' hb
        rw [hi1, hi2]
        refine wpAny_bind (ht prog w _ _ ?_)
        wp_walk
        exact h
    · have hi2 : ys.toArray[((i : Nat) : Int).toNat]? = none := by simp; omega
      rw [hi1, hi2]
      wp_walk using wpAny_loadPart' hl, wpAny_loadPart' hb
      show R (.ok (.ret (.bool (decide (xs.toArray.size < ys.toArray.size))))) _
      have hy0 : ys.drop i = [] := List.drop_eq_nil_of_le (by omega)
      have hr := he.ends (.inr hy0)
      rw [List.size_toArray, List.size_toArray]
      have : decide (xs.length < ys.length) = r := by
        rw [hr, hy0]
        exact (decide_eq_false (by omega)).trans (decide_eq_false (by simp)).symm
      rw [this]; exact h

open PySem.Builtin AutoSeq1 MeetsSeq MeetsSeq2 MeetsSeq3 SeqRoads2 in
theorem list_ltAt (l b : Addr) (xs ys : List Value) (n n2 : Nat) (r : Bool) :
    Meets (Builtin.«list.__lt__» ⟨[.ref l, .ref b], []⟩)
      (fun A R s => s.heap.get? l = some { cls := .type "list", dict := none, data := .seq xs.toArray n, slots := #[] } ∧ s.heap.get? b = some { cls := .type "list", dict := none, data := .seq ys.toArray n2, slots := #[] } ∧
        LexAt A.in1 s xs ys r ∧ R (.ok (.ret (.bool r))) s) := by
  intro prog w A R s h
  obtain ⟨hp, g, d, tk, os⟩ := s; obtain ⟨hl, hb, he, h⟩ := h
  have f3 := AutoSeq1.sub_list_list
  wp_walk using wpAny_loadPart' hl, wpAny_loadPart' hb
  exact ⟨plainId_quiet plain_eq_loop _, codeAny_builtin entry_eq_loop (by
    rw [Around.under_plainId plain_eq_loop _]
    exact lt_loopAt l b xs ys n n2 r _ 0 rfl (Nat.zero_le _) (Nat.zero_le _) prog w A R _ ⟨hl, hb, by simpa using he, h⟩)⟩
theorem listLt {A : Around} {s : Shared} {a b : Addr} {xs ys : List Value} {n n2 : Nat} {r : Bool} (hu : A.units < cLine) (ha : s.heap.get? a = some (listOf xs.toArray n)) (hb : s.heap.get? b = some (listOf ys.toArray n2)) (h : LexAt A.in1 s xs ys r) : LtAt A s (.ref a) (.ref b) r := fun prog w E Q hq =>
  richCompare_meets_room (op := .Lt) ⟨_, ha, rfl⟩ ⟨_, hb, rfl⟩ F.slot_list_lt F.entry_list_lt (F.args_list_lt_2 _ _) (list_ltAt a b xs ys n n2 r)
    ⟨ha, hb, h, show Value.bool r ≠ Value.notImplemented ∧ Q (.bool r) s from ⟨(fun x => nomatch x), hq⟩⟩ hu
end Mine
end
section
open PySem PySem.W PySem.Calls PyProof.Rows PyProof.V
namespace Mine

noncomputable def kev {α : Type} (lt : Nat → Nat → Bool) : KasT α → α
  | .ret a => a
  | .ask i j k => kev lt (k (lt i j))
noncomputable def reach (le : List (Nat × Nat)) : Nat → Nat → Nat → Bool
  | 0, a, b => a == b
  | k + 1, a, b => a == b || le.any fun p => p.1 == a && reach le k p.2 b
noncomputable def chain (n m : Nat) (le : List (Nat × Nat)) : List Nat → Bool
  | a :: b :: r => (Nat.testBit m (Nat.add (Nat.mul a n) b) || reach le n a b) && chain n m le (b :: r)
  | _ => true
noncomputable def bitsOf (l : List Nat) : Nat := l.foldr (fun d m => Nat.lor m (Nat.shiftLeft 1 d)) 0
noncomputable def chk (n : Nat) : Nat → List (Nat × Nat) → KasT (Array Nat) → Bool
  | m, le, .ret p => p.toList.length == n && Nat.beq (bitsOf p.toList) (Nat.sub (Nat.pow 2 n) 1) && chain n m le p.toList
  | m, le, .ask i j k => decide (i < n) && decide (j < n) && (chk n (Nat.lor m (Nat.shiftLeft 1 (Nat.add (Nat.mul i n) j))) ((i, j) :: le) (k true) && chk n (Nat.lor m (Nat.shiftLeft 1 (Nat.add (Nat.mul j n) i))) ((j, i) :: le) (k false))

theorem bit_lor (m k i : Nat) : Nat.testBit (Nat.lor m (Nat.shiftLeft 1 k)) i = (Nat.testBit m i || decide (k = i)) := by
  show Nat.testBit (m ||| 1 <<< k) i = _
  rw [Nat.testBit_or, Nat.one_shiftLeft, Nat.testBit_two_pow]
theorem bitsOf_bit (i : Nat) : ∀ l : List Nat, Nat.testBit (bitsOf l) i = true ↔ i ∈ l
  | [] => by simp [bitsOf]
  | d :: l => by
    show Nat.testBit (Nat.lor (bitsOf l) (Nat.shiftLeft 1 d)) i = true ↔ _
    rw [bit_lor, Bool.or_eq_true_iff, bitsOf_bit i l, decide_eq_true_iff, List.mem_cons]
    exact ⟨fun h => h.elim .inr fun h => .inl h.symm, fun h => h.elim (fun h => .inr h.symm) .inl⟩
theorem bits_all {n : Nat} {l : List Nat} (h : Nat.beq (bitsOf l) (Nat.sub (Nat.pow 2 n) 1) = true) (i : Nat) : i ∈ l ↔ i < n := by
  rw [← bitsOf_bit i l, Nat.eq_of_beq_eq_true h]
  show Nat.testBit (2 ^ n - 1) i = true ↔ _
  rw [Nat.testBit_two_pow_sub_one, decide_eq_true_iff]
theorem reach_ok {R : Nat → Nat → Prop} (hr : ∀ a, R a a) (ht : ∀ a b c, R a b → R b c → R a c) {le : List (Nat × Nat)} (hl : ∀ p ∈ le, R p.1 p.2) : ∀ k a b, reach le k a b = true → R a b
  | 0, a, b, h => by
    have : a = b := by simpa [reach] using h
    exact this ▸ hr a
  | k + 1, a, b, h => by
    simp only [reach, Bool.or_eq_true, beq_iff_eq, List.any_eq_true, Bool.and_eq_true] at h
    rcases h with rfl | ⟨p, hp, rfl, h⟩
    · exact hr a
    · exact ht _ _ _ (hl p hp) (reach_ok hr ht hl k _ _ h)
theorem pair_inj {n a b i j : Nat} (hb : b < n) (hj : j < n) (h : i * n + j = a * n + b) : i = a ∧ j = b := by
  have h1 : (i * n + j) % n = (a * n + b) % n := congrArg (· % n) h
  rw [Nat.mul_add_mod_of_lt hj, Nat.mul_add_mod_of_lt hb] at h1
  subst h1
  exact ⟨Nat.eq_of_mul_eq_mul_right (Nat.lt_of_le_of_lt (Nat.zero_le _) hb) (Nat.add_right_cancel h), rfl⟩
noncomputable def BitsOk (R : Nat → Nat → Prop) (n m : Nat) : Prop := ∀ a b, b < n → Nat.testBit m (Nat.add (Nat.mul a n) b) = true → R a b
theorem BitsOk.add {R : Nat → Nat → Prop} {n m i j : Nat} (H : BitsOk R n m) (hj : j < n) (h : R i j) : BitsOk R n (Nat.lor m (Nat.shiftLeft 1 (Nat.add (Nat.mul i n) j))) := fun a b hb q => by
  rw [bit_lor] at q
  rcases Bool.or_eq_true_iff.mp q with q | q
  · exact H a b hb q
  · obtain ⟨rfl, rfl⟩ := pair_inj hb hj (of_decide_eq_true q)
    exact h
theorem chain_ok {R : Nat → Nat → Prop} (hr : ∀ a, R a a) (ht : ∀ a b c, R a b → R b c → R a c) {le : List (Nat × Nat)} (hl : ∀ p ∈ le, R p.1 p.2) {n m : Nat} (hm : BitsOk R n m) : ∀ l : List Nat, (∀ i ∈ l, i < n) → chain n m le l = true → l.Pairwise R
  | [], _, _ => .nil
  | [a], _, _ => List.pairwise_singleton _ _
  | a :: b :: r, hn, h => by
    have h := Bool.and_eq_true_iff.mp h
    have h2 := chain_ok hr ht hl hm (b :: r) (fun i hi => hn i (.tail _ hi)) h.2
    have h1 : R a b := (Bool.or_eq_true_iff.mp h.1).elim (hm a b (hn b (.tail _ (.head _)))) fun q => reach_ok hr ht hl _ _ _ q
    refine List.pairwise_cons.mpr ⟨fun c hc => ?_, h2⟩
    rcases List.mem_cons.mp hc with rfl | hc
    · exact h1
    · exact ht _ _ _ h1 ((List.pairwise_cons.mp h2).1 c hc)
theorem chk_ok {R : Nat → Nat → Prop} (hr : ∀ a, R a a) (ht : ∀ a b c, R a b → R b c → R a c) {lt : Nat → Nat → Bool} (h1 : ∀ i j, lt i j = true → R i j) (h0 : ∀ i j, lt i j = false → R j i) {n : Nat} :
    ∀ (t : KasT (Array Nat)) (m : Nat) (le : List (Nat × Nat)), BitsOk R n m → (∀ p ∈ le, R p.1 p.2) → chk n m le t = true → (kev lt t).toList.length = n ∧ (∀ i < n, i ∈ (kev lt t).toList) ∧ (∀ i ∈ (kev lt t).toList, i < n) ∧ (kev lt t).toList.Pairwise R
  | .ret p, m, le, hm, hl, h => by
    have h := Bool.and_eq_true_iff.mp h
    have h' := Bool.and_eq_true_iff.mp h.1
    have hb := bits_all h'.2
    show p.toList.length = n ∧ _
    exact ⟨beq_iff_eq.mp h'.1, fun i hi => (hb i).mpr hi, fun i hi => (hb i).mp hi, chain_ok hr ht hl hm _ (fun i hi => (hb i).mp hi) h.2⟩
  | .ask i j k, m, le, hm, hl, h => by
    have h := Bool.and_eq_true_iff.mp h
    have hij := Bool.and_eq_true_iff.mp h.1
    have h := Bool.and_eq_true_iff.mp h.2
    have e : kev lt (KasT.ask i j k) = kev lt (k (lt i j)) := rfl
    rw [e]
    cases hb : lt i j with
    | true => exact chk_ok hr ht h1 h0 (k true) _ _ (hm.add (of_decide_eq_true hij.2) (h1 _ _ hb)) (List.forall_mem_cons.mpr ⟨h1 _ _ hb, hl⟩) h.1
    | false => exact chk_ok hr ht h1 h0 (k false) _ _ (hm.add (of_decide_eq_true hij.1) (h0 _ _ hb)) (List.forall_mem_cons.mpr ⟨h0 _ _ hb, hl⟩) h.2
theorem kas_run {cmp : Nat → Nat → (Bool → Shared → Prop) → Shared → Prop} {lt : Nat → Nat → Bool} {s : Shared} {n : Nat} (hc : ∀ i j (D : Bool → Shared → Prop), i < n → j < n → D (lt i j) s → cmp i j D s) {Q : Array Nat → Shared → Prop} :
    ∀ (t : KasT (Array Nat)) (m : Nat) (le : List (Nat × Nat)), chk n m le t = true → Q (kev lt t) s → t.kasWp cmp Q s
  | .ret p, m, le, h, hq => hq
  | .ask i j k, m, le, h, hq => by
    have h := Bool.and_eq_true_iff.mp h
    have hij := Bool.and_eq_true_iff.mp h.1
    have h := Bool.and_eq_true_iff.mp h.2
    refine hc i j _ (of_decide_eq_true hij.1) (of_decide_eq_true hij.2) ?_
    have e : kev lt (KasT.ask i j k) = kev lt (k (lt i j)) := rfl
    rw [e] at hq
    cases hb : lt i j with
    | true =>
      rw [hb] at hq
      exact kas_run hc (k true) _ _ h.1 hq
    | false =>
      rw [hb] at hq
      exact kas_run hc (k false) _ _ h.2 hq
theorem bits0 {R : Nat → Nat → Prop} {n : Nat} : BitsOk R n 0 := fun a b zz1 h => by rw [Nat.zero_testBit] at h; cases h
theorem chk1 : chk 1 0 [] (kas_sort 1) = true := by decide +kernel
theorem chk2 : chk 2 0 [] (kas_sort 2) = true := by decide +kernel
theorem chk3 : chk 3 0 [] (kas_sort 3) = true := by decide +kernel
theorem chk6 : chk 6 0 [] (kas_sort 6) = true := by decide +kernel
end Mine
end
section
open PySem PySem.W PySem.Calls PyProof.Rows PyProof.V
namespace Mine

section
variable {C : Cx} {X Xi Φ Φ' : Led} {ρ ρ' : Loc} {m : Str → Option Value} {ow : List OwnE} {s s' : Shared}

theorem AtM.framed {h' : Heap} {tk : Nat} (H : AtM C X Φ ρ m ow s) (hk : ∀ b o, b ≠ C.env.locals → s.heap.get? b = some o → h'.get? b = some o) (hn : h'.Ns C.env.locals m) : AtM C X Φ ρ m ow { s with heap := h', toks := tk } := by
  have h0L : ∀ {b o}, C.h₀.get? b = some o → b ≠ C.env.locals := fun {b o} e q => by have := H.fresh _ (.head _ : C.env.locals ∈ muts C ow); rw [← q, e] at this; cases this
  have nc : ∀ {c w}, s.heap.IsCell c w → h'.IsCell c w := fun {c w} hi => by
    have hne := H.cell_ne_loc hi
    obtain ⟨o, ho, hd⟩ := hi
    exact ⟨o, hk _ _ hne ho, hd⟩
  refine { H with fr := ⟨hn, fun b o e => hk b o (h0L (H.baseIn b o e)) (H.fr.keep b o e), H.fr.above⟩, keep := ⟨fun b o e n => hk b o (h0L e) (H.keep.off b o e n), fun b o e => ?_⟩, stk := fun env he => ?_, led := fun p hp => hk _ _ (fun q => H.ledm p hp (q ▸ .head _)) (H.led p hp), xtr := fun p hp => hk _ _ (fun q => (H.xtrm p hp).1 (q ▸ .head _)) (H.xtr p hp), own := fun q hq => hk _ _ (H.ne_loc (H.own q hq) fun es n e => by cases e) (H.own q hq), cells := fun q hq => ?_, loc := fun y b e => ?_ }
  · obtain ⟨sl, e'⟩ := H.keep.on b o e
    exact ⟨sl, hk _ _ (h0L e) e'⟩
  · obtain ⟨hk', F, o, es, n, hf, hb, ho, hd⟩ := H.stk env he
    by_cases hF : F = C.env.locals
    · obtain ⟨o', es', n', ho', hd', _⟩ := hn
      exact ⟨hk', F, o', es', n', hf, hb, by rw [hF]; exact ho', hd'⟩
    · exact ⟨hk', F, o, es, n, hf, hb, hk _ _ hF ho, hd⟩
  · obtain ⟨w, hi⟩ := H.cells q hq
    exact ⟨w, nc hi⟩
  · obtain ⟨u, hs', hr⟩ := H.loc y b e
    refine ⟨u, ?_, hr⟩
    rcases hs' with hs' | ⟨hk', c, hc, hi⟩
    · exact .inl hs'
    · exact .inr ⟨hk', c, hc, nc hi⟩

noncomputable def live (h h₀ : Heap) (L : Addr) : Led := (List.range h.objs.size).filterMap fun b => match h.get? b with
  | some o => if b = L ∨ (h₀.get? b).isSome = true then none else some (b, o)
  | none => none
theorem live_news {h h₀ : Heap} {L : Addr} : News h₀ L h (live h h₀ L) := fun p hp => by
  obtain ⟨b, hb, e⟩ := List.mem_filterMap.mp hp
  cases hg : h.get? b with
  | none => rw [hg] at e; cases e
  | some o =>
    rw [hg] at e
    dsimp only at e
    split at e
    · cases e
    · rename_i hc
      cases e
      refine ⟨hg, fun q => hc (.inl q), ?_⟩
      cases q : h₀.get? b with
      | none => rfl
      | some o => exact absurd (.inr (by rw [q]; rfl)) hc
theorem mem_live {h h₀ : Heap} {L b : Addr} {o : Obj} (hg : h.get? b = some o) (hL : b ≠ L) (h0 : h₀.get? b = none) : (b, o) ∈ live h h₀ L := by
  refine List.mem_filterMap.mpr ⟨b, List.mem_range.mpr (Heap.lt_size hg), ?_⟩
  rw [hg]
  dsimp only
  rw [if_neg]
  rintro (q | q)
  · exact hL q
  · rw [h0] at q; cases q
theorem live_keep {h h' h₀ : Heap} {L : Addr} {m : Str → Option Value} {news : Led} (F : Fr h₀ L h m) (F' : Fr h₀ L h' m) (N' : News h₀ L h' news) (hs : ∀ p ∈ live h h₀ L, p ∈ news) : ∀ b o, b ≠ L → h.get? b = some o → h'.get? b = some o := fun b o hb e => by
  cases q : h₀.get? b with
  | none => exact (N' _ (hs _ (mem_live e hb q))).1
  | some o' =>
    have := F.keep b o' q
    rw [e] at this; cases this
    exact F'.keep b o q

theorem lexKat {prog : Program} {w : World} {A : Around} {s : Shared} {Q : Bool → Shared → Prop} {xs ys : List Value} {r : Bool} (h : LexAt A s xs ys r) : ∀ (fin : Bool) (i : Nat), (xs.length = ys.length → fin = false) → xs.length = ys.length → Q r s → KatLex prog w A false fin Q (xs.zip ys) i s := by
  induction h with
  | nil => exact fun fin i hf hl hq => kat_nil (by rw [hf rfl]; exact hq)
  | nilL y ys => exact fun fin i hf hl hq => by simp at hl
  | nilR x xs => exact fun fin i hf hl hq => by simp at hl
  | @eq x y xs ys r h t ih =>
    intro fin i hf hl hq
    have hl' : xs.length = ys.length := by simpa using hl
    refine kat_cons (h prog w _ _ ?_)
    exact kat_yes (ih fin (i + 1) (fun zz1 => hf hl) hl' hq)
  | @ne x y xs ys r h t =>
    intro fin i hf hl hq
    refine kat_cons (h prog w _ _ ?_)
    refine kat_no ?_
    rw [Bool.false_and]
    refine kat_one _ _ ?_
    exact t prog w _ _ hq
end
end Mine
end
section
open PySem PySem.W PySem.Calls PyProof.Rows PyProof.V PySem.Spec
namespace Mine

section
variable {C : Cx} {X Xi Φ Φ' : Led} {ρ ρ' : Loc} {m : Str → Option Value} {ow : List OwnE} {s s' : Shared} {A : Around}

theorem qat {h₀ : Heap} {L : Addr} (N : News h₀ L s.heap Φ) {v u : Value} {a b : Dat} (h1 : DatIn Φ v a) (h2 : DatIn Φ u b) (ha : kqdOk 8 a = true) (hb : kqdOk 8 b = true) (hu : A.units + 64 < cLine) {t : Bool} (ht : t = true ↔ a = b) : QAt A s v u t := fun prog w E Q hq => by
  obtain ⟨as, ra⟩ := kqd_in N 8 h1 ha
  obtain ⟨bs, rb⟩ := kqd_in N 8 h2 hb
  have e : PyData.eqv (kqdP a) (kqdP b) = t := by
    have q := kqd_eqv 8 a b 8 ha hb
    cases t
    · exact Bool.eq_false_iff.mpr fun x => by have := ht.mpr (q.mp x); cases this
    · exact q.mpr (ht.mp rfl)
  refine SeqAt.eqBoolOverData prog w A E s v u _ _ as bs Q ra rb (kqd_lay 8 a ha).1 (kqd_lay 8 b hb).1 ?_ (by rw [e]; exact hq)
  have := (kqd_lay 8 a ha).2
  have := Nat.min_le_left (kqdP a).depth (kqdP b).depth
  lia

theorem lt_same {α : Type} [LT α] [DecidableEq α] [DecidableLT α] (hirr : ∀ x : α, ¬ x < x) {x : α} {xs ys : List α} : decide (x :: xs < x :: ys) = decide (xs < ys) :=
  decide_eq_decide.mpr (List.cons_lt_cons_iff.trans ⟨fun q => q.elim (fun h => absurd h (hirr x)) (·.2), fun q => .inr ⟨rfl, q⟩⟩)
theorem lt_ne {α : Type} [LT α] [DecidableEq α] [DecidableLT α] {x y : α} (e : x ≠ y) {xs ys : List α} : decide (x :: xs < y :: ys) = decide (x < y) :=
  decide_eq_decide.mpr (List.cons_lt_cons_iff.trans ⟨fun q => q.elim id fun h => absurd h.1 e, .inl⟩)
theorem lexOf {α : Type} [LT α] [DecidableEq α] [DecidableLT α] {g : α → Dat} (hg : ∀ x y, g x = g y ↔ x = y) (hirr : ∀ x : α, ¬ x < x) {h₀ : Heap} {L : Addr} (N : News h₀ L s.heap Φ) (hu : A.units + 64 < cLine)
    (hlt : ∀ (x y : α) (u v : Value), DatIn Φ u (g x) → DatIn Φ v (g y) → LtAt A s u v (decide (x < y))) :
    ∀ {xs ys : List α} {us vs : List Value}, (∀ x ∈ xs, kqdOk 8 (g x) = true) → (∀ y ∈ ys, kqdOk 8 (g y) = true) → DatAll Φ us (xs.map g) → DatAll Φ vs (ys.map g) → LexAt A s us vs (decide (xs < ys)) := by
  intro xs
  induction xs with
  | nil =>
    intro ys us vs _ _ h1 h2
    have h1 : DatAll Φ us [] := h1
    cases h1
    cases ys with
    | nil =>
      have h2 : DatAll Φ vs [] := h2
      cases h2
      rw [decide_eq_false (List.not_lt_nil _)]; exact .nil
    | cons y ys =>
      have h2 : DatAll Φ vs (g y :: ys.map g) := h2
      cases h2
      rw [decide_eq_true (List.nil_lt_cons y ys)]; exact .nilL _ _
  | cons x xs ih =>
    intro ys us vs kx ky h1 h2
    have h1 : DatAll Φ us (g x :: xs.map g) := h1
    cases h1 with
    | cons h r => ?_
    cases ys with
    | nil =>
      have h2 : DatAll Φ vs [] := h2
      cases h2
      rw [decide_eq_false (List.not_lt_nil _)]; exact .nilR _ _
    | cons y ys =>
      have h2 : DatAll Φ vs (g y :: ys.map g) := h2
      cases h2 with
      | cons h2 r2 => ?_
      by_cases e : x = y
      · subst e
        rw [lt_same hirr]
        exact .eq (qat N h h2 (kx x (.head _)) (ky x (.head _)) hu (iff_of_true rfl rfl)) (ih (fun z hz => kx z (.tail _ hz)) (fun z hz => ky z (.tail _ hz)) r r2)
      · rw [lt_ne e]
        exact .ne (qat N h h2 (kx x (.head _)) (ky y (.head _)) hu (iff_of_false Bool.false_ne_true fun q => e ((hg x y).mp q))) (hlt x y _ _ h h2)

theorem ltInt (x y : Int) (u v : Value) (h1 : DatIn Φ u (.int x)) (h2 : DatIn Φ v (.int y)) : LtAt A s u v (decide (x < y)) := fun prog w E Q hq => by
  cases h1; cases h2; exact P.lt_int hq
theorem ltTxt (x y : List Nat) (u v : Value) (h1 : DatIn Φ u (DS x)) (h2 : DatIn Φ v (DS y)) : LtAt A s u v (decide (x < y)) := fun prog w E Q hq => by
  cases h1; cases h2; exact P.lt_str hq
theorem lexInts {h₀ : Heap} {L : Addr} (N : News h₀ L s.heap Φ) (hu : A.units + 64 < cLine) {xs ys : List Int} {us vs : List Value} (h1 : DatAll Φ us (xs.map .int)) (h2 : DatAll Φ vs (ys.map .int)) : LexAt A s us vs (decide (xs < ys)) :=
  lexOf (by simp) (fun x => Int.lt_irrefl x) N hu ltInt (fun zz1 zz2 => rfl) (fun zz1 zz2 => rfl) h1 h2
theorem ltKey {h₀ : Heap} {L : Addr} (N : News h₀ L s.heap Φ) (hu : A.units + 65 < cLine) (xs ys : List Int) (u v : Value) (h1 : DatIn Φ u (dK xs)) (h2 : DatIn Φ v (dK ys)) : LtAt A s u v (decide (xs < ys)) := by
  obtain ⟨a, us, n, rfl, hm, hD⟩ := DatIn.tupInv h1
  obtain ⟨b, vs, n2, rfl, hm2, hE⟩ := DatIn.tupInv h2
  exact tupLt (by lia) ⟨_, (N _ hm).1, rfl, _, rfl⟩ ⟨_, (N _ hm2).1, rfl, _, rfl⟩ (lexInts (A := A.in1) N (by show A.units + 1 + 64 < cLine; lia) hD hE)
theorem dK_inj {a b : List Int} : dK a = dK b ↔ a = b := by
  unfold dK
  rw [Dat.tuple.injEq]
  exact ⟨fun h => List.map_inj_right (fun x y e => by cases e; rfl) |>.mp h, fun h => by rw [h]⟩
end
theorem op_ltK {xs ys : List Int} : Op2 (compareOp .Lt) (dK xs) (dK ys) (.bool (decide (xs < ys))) := fun C X Φ ρ f s v1 v2 H h1 h2 =>
  ltKey (AtM.news H) (by have := H.ok.room.2; lia) xs ys v1 v2 h1 h2 P C.w _ _ ⟨Φ, fun zz1 h => h, H, .bool _⟩

noncomputable abbrev Row := List Int × List Nat × Way
noncomputable def dRow (r : Row) : Dat := .tuple [dK r.1, DS r.2.1, dW r.2.2]
noncomputable def Row.Ok (r : Row) : Prop := Asc r.2.1
theorem kq_ints (xs : List Int) (n : Nat) : kqdOk (n + 1) (dK xs) = true := by
  show ((xs.map Dat.int).all (kqdOk n)) = true
  rw [List.all_eq_true]
  intro d hd
  obtain ⟨i, _, rfl⟩ := List.mem_map.mp hd
  cases n <;> rfl
theorem kq_way (w : Way) (n : Nat) : kqdOk (n + 1) (dW w) = true := kq_ints [w.root, w.up, w.cnt, w.val] n
theorem kq_row {r : Row} (h : r.Ok) : kqdOk 8 (dRow r) = true := by
  show ([dK r.1, DS r.2.1, dW r.2.2].all (kqdOk 7)) = true
  rw [List.all_cons, List.all_cons, List.all_cons, kq_ints, kq_str h, kq_way]; rfl
end Mine
end
section
open PySem PySem.W PySem.Calls PyProof.Rows PyProof.V PySem.Spec
namespace Mine

noncomputable def rdf : Row := ([], [], ⟨0, 0, 0, 0⟩)
noncomputable def rlt (rows : List Row) (i j : Nat) : Bool := decide ((rows.getD i rdf).1 < (rows.getD j rdf).1)
noncomputable def rsort (rows : List Row) : List Row := (kev (rlt rows) (kas_sort rows.length)).toList.map fun i => rows.getD i rdf

theorem datAll_getD {Φ : Led} {vs : List Value} {ds : List Dat} {k : Nat} {d0 : Dat} {v0 : Value} (h : DatAll Φ vs ds) (hk : k < ds.length) : DatIn Φ (vs.getD k v0) (ds.getD k d0) := by
  have e : ds[k]? = some ds[k] := List.getElem?_eq_getElem hk
  obtain ⟨v, hv, hi⟩ := datAll_get? h e
  rw [List.getD_eq_getElem?_getD, List.getD_eq_getElem?_getD, hv, e]
  exact hi
theorem datAll_picks {Φ : Led} {vs : List Value} {ds : List Dat} {d0 : Dat} {v0 : Value} (h : DatAll Φ vs ds) : ∀ {p : List Nat}, (∀ i ∈ p, i < ds.length) → DatAll Φ (p.map fun i => vs.getD i v0) (p.map fun i => ds.getD i d0)
  | [], _ => .nil
  | i :: p, hp => .cons (datAll_getD h (hp i (.head _))) (datAll_picks h fun j hj => hp j (.tail _ hj))
theorem rlt_lex {A : Around} {s : Shared} {Φ : Led} {h₀ : Heap} {L : Addr} (N : News h₀ L s.heap Φ) (hu : A.units + 70 < cLine) {a b : Row} (ha : a.Ok) (hb : b.Ok) (hinj : a.1 = b.1 → a = b) {us vs : List Value} (h1 : DatAll Φ us [dK a.1, DS a.2.1, dW a.2.2]) (h2 : DatAll Φ vs [dK b.1, DS b.2.1, dW b.2.2]) :
    LexAt A s us vs (decide (a.1 < b.1)) := by
  cases h1 with
  | cons u1 h1 =>
  cases h1 with
  | cons u2 h1 =>
  obtain ⟨u, rfl, u3⟩ := datAll1 h1
  cases h2 with
  | cons v1 h2 =>
  cases h2 with
  | cons v2 h2 =>
  obtain ⟨v, rfl, v3⟩ := datAll1 h2
  by_cases e : a.1 = b.1
  · have := hinj e
    subst this
    rw [decide_eq_false (List.lt_irrefl _)]
    exact .eq (qat N u1 v1 (kq_ints _ _) (kq_ints _ _) (by lia) (by simp)) (.eq (qat N u2 v2 (kq_str ha _) (kq_str ha _) (by lia) (by simp)) (.eq (qat N u3 v3 (kq_way _ _) (kq_way _ _) (by lia) (by simp)) .nil))
  · exact .ne (qat N u1 v1 (kq_ints _ _) (kq_ints _ _) (by lia) (by simp [dK_inj, e])) (ltKey N (by lia) _ _ _ _ u1 v1)
theorem chkN {n : Nat} (h : n = 2 ∨ n = 3 ∨ n = 6) : chk n 0 [] (kas_sort n) = true := by
  rcases h with rfl | rfl | rfl
  · exact chk2
  · exact chk3
  · exact chk6
theorem inTup {Φ : Led} {v : Value} {d : Dat} {ds : List Dat} (h : DatIn Φ v d) (e : d = .tuple ds) : ∃ a vs n, v = .ref a ∧ (a, ({ cls := .type "tuple", data := .seq vs.toArray n } : Obj)) ∈ Φ ∧ DatAll Φ vs ds := DatIn.tupInv (e ▸ h)
theorem katTups {Φ : Led} {h : Heap} (hl : ∀ p ∈ Φ, h.get? p.1 = some p.2) : ∀ {vs : List Value} {rows : List Row}, DatAll Φ vs (rows.map dRow) → ∃ fs, KatTups h vs fs ∧ fs.length = rows.length ∧ ∀ f ∈ fs, ∃ a o, f = .ref a ∧ h.get? a = some o ∧ o.cls = .type "tuple"
  | _, [], .nil => ⟨[], .nil, rfl, fun zz1 h => by cases h⟩
  | _, r :: rows, .cons h1 h2 => by
    obtain ⟨fs, k1, k2, k3⟩ := katTups hl h2
    obtain ⟨a, us, n, rfl, hm, hD⟩ := inTup (ds := [dK r.1, DS r.2.1, dW r.2.2]) h1 rfl
    cases hD with
    | cons u1 hD =>
      obtain ⟨b, ws, n2, rfl, hm2, hD2⟩ := DatIn.tupInv u1
      exact ⟨.ref b :: fs, KatTups.cons (hl _ hm) rfl rfl (by simp) k1, by simp [k2], fun f hf => by
        rcases List.mem_cons.mp hf with rfl | hf
        · exact ⟨b, _, rfl, hl _ hm2, rfl⟩
        · exact k3 f hf⟩

theorem AtM.addLed {C : Cx} {X Φ : Led} {ρ : Loc} {m : Str → Option Value} {ow : List OwnE} {s : Shared} {D : Addr} {o : Obj} (H : AtM C X Φ ρ m ow s) (hD : s.heap.get? D = some o) (hs : ∃ xs n, o.data = .seq xs n) (h1 : D ∉ muts C ow) (h2 : ∀ p ∈ X, p.1 ≠ D) (h3 : C.h₀.get? D = none) :
    AtM C X ((D, o) :: Φ) ρ m ow s :=
  { H with
    led := fun p hp => by
      rcases List.mem_cons.mp hp with rfl | hp
      · exact hD
      · exact H.led p hp
    seq := fun p hp => by
      rcases List.mem_cons.mp hp with rfl | hp
      · exact hs
      · exact H.seq p hp
    ledm := fun p hp => by
      rcases List.mem_cons.mp hp with rfl | hp
      · exact h1
      · exact H.ledm p hp
    xled := fun p hp q hq => by
      rcases List.mem_cons.mp hq with rfl | hq
      · exact (h2 p hp).symm
      · exact H.xled p hp q hq
    src := fun p hp => by
      rcases List.mem_cons.mp hp with rfl | hp
      · exact .inr h3
      · exact H.src p hp
    loc := fun x av e => by
      obtain ⟨v, a, b⟩ := H.loc x av e
      exact ⟨v, a, b.mono fun p hp => .tail _ hp⟩ }
theorem AtM.addNew {C : Cx} {X Φ : Led} {ρ : Loc} {m m2 : Str → Option Value} {ow : List OwnE} {s s2 : Shared} {D : Addr} {o : Obj} (H : AtM C X Φ ρ m ow s) (hD0 : s.heap.get? D = none) (H2 : AtM C X Φ ρ m2 ow s2) (hD : s2.heap.get? D = some o) (hs : ∃ xs n, o.data = .seq xs n) :
    AtM C X ((D, o) :: Φ) ρ m2 ow s2 :=
  H2.addLed hD hs (fun h => by obtain ⟨o, ho⟩ := H.some_of_mut h; rw [hD0] at ho; cases ho) (AtM.new0 H hD0).2 (AtM.new0 H hD0).1
theorem bi_sortedRows {rows : List Row} (hn : rows.length = 2 ∨ rows.length = 3 ∨ rows.length = 6) (hok : ∀ r ∈ rows, r.Ok) (hinj : ∀ a ∈ rows, ∀ b ∈ rows, a.1 = b.1 → a = b) :
    Bi (.builtin "sorted") [.list (rows.map dRow)] (.list ((rsort rows).map dRow)) := fun C X Φ ρ f s vs0 hh H h => by
  obtain ⟨v, rfl, h0⟩ := datAll1 h
  obtain ⟨l, vs, n, rfl, hm, hD⟩ := DatIn.listInv h0
  have hlen := hD.length
  rw [List.length_map] at hlen
  have hL : s.heap.IsList l vs.toArray := ⟨_, H.led _ hm, rfl, _, rfl⟩
  have hroom := H.ok.room.2
  refine kat_sorted H.fr (live_news (h := s.heap) (h₀ := C.hB) (L := C.env.locals)) hL (by lia) (by lia) fun D e1 h' F' N' hDlt => ?_
  have k' := live_keep H.fr F' N' fun p hp => .tail _ hp
  have H' := AtM.framed (tk := s.toks) H k' F'.ns
  have N2 := AtM.news H'
  obtain ⟨fs, t1, t2, t3⟩ := katTups (fun p hp => H'.led p hp) hD
  refine kat_kind (T := .type "tuple") t1 (by lia) (fun v hv => ?_) (by rfl) ?_
  · obtain ⟨a, o, rfl, ho, hc⟩ := t3 v hv
    rw [← hc]
    exact (Looks.ld ho).andThen .now
  have hchk := chkN hn
  have hspec := chk_ok (R := fun i j => rlt rows j i = false) (lt := rlt rows) (n := rows.length) (fun a => decide_eq_false (List.lt_irrefl _)) ?_ ?_ ?_ (kas_sort rows.length) 0 [] bits0 (fun zz1 h => by cases h) hchk
  · rw [hlen]
    refine kas_run (lt := rlt rows) (n := rows.length) (fun i j K hi hj hK => ?_) (kas_sort rows.length) 0 [] hchk ?_
    · -- one question
      have hri : rows.getD i rdf ∈ rows := by rw [List.getD_eq_getElem?_getD, List.getElem?_eq_getElem hi]; exact List.getElem_mem hi
      have hrj : rows.getD j rdf ∈ rows := by rw [List.getD_eq_getElem?_getD, List.getElem?_eq_getElem hj]; exact List.getElem_mem hj
      have di := datAll_getD (v0 := Value.none) (d0 := dRow rdf) hD (k := i) (by simpa using hi)
      have dj := datAll_getD (v0 := Value.none) (d0 := dRow rdf) hD (k := j) (by simpa using hj)
      have em : ∀ k, (rows.map dRow).getD k (dRow rdf) = dRow (rows.getD k rdf) := fun k => by
        rw [List.getD_eq_getElem?_getD, List.getD_eq_getElem?_getD, List.getElem?_map]
        cases rows[k]? <;> rfl
      rw [em] at di dj
      obtain ⟨a, us, n1, ea, ma, da⟩ := inTup (ds := [dK (rows.getD i rdf).1, DS (rows.getD i rdf).2.1, dW (rows.getD i rdf).2.2]) di rfl
      obtain ⟨b, ws, n2, eb, mb, db⟩ := inTup (ds := [dK (rows.getD j rdf).1, DS (rows.getD j rdf).2.1, dW (rows.getD j rdf).2.2]) dj rfl
      show wpAny _ _ (keyLt' _ (vs.getD i Value.none) (vs.getD j Value.none)) K _ _
      rw [ea, eb]
      have l1 := da.length
      have l2 := db.length
      have hx := rlt_lex (A := C.A.in1.in1) N2 (by show C.A.units + 1 + 1 + 70 < cLine; lia) (hok _ hri) (hok _ hrj) (hinj _ hri _ hrj) da db
      refine kat_lt (H'.led _ ma) rfl (H'.led _ mb) rfl ?_
      simp only [List.size_toArray]
      exact lexKat hx _ 0 (fun e => decide_eq_false (by lia)) (by rw [l1, l2]; rfl) hK
    · refine KasFin.intro F' N' (.head fun p hp => Nat.ne_of_lt (hDlt p hp)) fun h2 c F2 N2' => ?_
      have k2 : ∀ b o, b ≠ C.env.locals → s.heap.get? b = some o → h2.get? b = some o := live_keep H.fr F2 N2' fun p hp => .tail _ hp
      have H2 := AtM.framed (tk := s.toks) H k2 F2.ns
      have hDn := (N2' (D, listOf (((kev (rlt rows) (kas_sort rows.length)).toList.map fun i => vs.getD i Value.none)).toArray c) (.head _)).1
      have hD0 : s.heap.get? D = none := by
        cases q : s.heap.get? D with
        | none => rfl
        | some o =>
          have hDL := (N' (D, seqObj "list" #[] e1) (.head _)).2
          exact absurd (hDlt _ (mem_live q hDL.1 hDL.2)) (Nat.lt_irrefl _)
      refine ⟨_, fun p hp => .tail _ hp, AtM.addNew H hD0 H2 hDn ⟨_, _, rfl⟩, .list (.head _) ?_⟩
      have := datAll_picks (v0 := Value.none) (d0 := dRow rdf) hD (p := (kev (rlt rows) (kas_sort rows.length)).toList) ?_
      · have e : ((kev (rlt rows) (kas_sort rows.length)).toList.map fun i => (rows.map dRow).getD i (dRow rdf)) = (rsort rows).map dRow := by
          unfold rsort
          rw [List.map_map]
          refine List.map_congr_left fun k zz1 => ?_
          show (rows.map dRow).getD k (dRow rdf) = dRow (rows.getD k rdf)
          rw [List.getD_eq_getElem?_getD, List.getD_eq_getElem?_getD, List.getElem?_map]
          cases rows[k]? <;> rfl
        rw [e] at this
        exact this.mono fun p hp => .tail _ hp
      · intro i hi
        rw [List.length_map]
        exact hspec.2.2.1 i hi
  · intro a b c h1 h2
    have h1' : (rows.getD a rdf).1 ≤ (rows.getD b rdf).1 := List.not_lt.mp (of_decide_eq_false h1)
    have h2' : (rows.getD b rdf).1 ≤ (rows.getD c rdf).1 := List.not_lt.mp (of_decide_eq_false h2)
    exact decide_eq_false (List.not_lt.mpr (List.le_trans h1' h2'))
  · intro i j h
    exact decide_eq_false (List.lt_asymm (of_decide_eq_true h))
  · exact fun i j h => h
end Mine
end
section
open PySem PySem.W PySem.Calls PyProof.Rows PyProof.V PySem.Spec
namespace Mine

inductive GotL (C : Cx) (scope : Scope) (ρ : Loc) : Loc → Prop
  | nil : GotL C scope ρ []
  | dat {x : Str} {d : Dat} {r : Loc} (h1 : ρ.lookup x = some (.dat d)) (h3 : (relabel scope C.env).names.lookup x = some .cell) (h4 : C.env.kindOf x = some .cell) (t : GotL C scope ρ r) : GotL C scope ρ ((x, .dat d) :: r)
theorem GotL.all {C : Cx} {scope : Scope} {ρ ρ' : Loc} (h : GotL C scope ρ ρ') : ∀ p ∈ ρ', ρ.lookup p.1 = some p.2 ∧ (∀ ds, p.2 ≠ .own ds) ∧ (relabel scope C.env).names.lookup p.1 = some .cell ∧ C.env.kindOf p.1 ≠ some .local := by
  induction h with
  | nil => exact fun zz1 h => by cases h
  | dat h1 h3 h4 t ih =>
    intro p hp
    rcases List.mem_cons.mp hp with rfl | hp
    · exact ⟨h1, (fun ds e => by cases e), h3, by rw [h4]; decide⟩
    · exact ih p hp
theorem Caught.of {C : Cx} {scope : Scope} {cl : List (Str × Addr)} {ρ ρ' : Loc} (got : GotL C scope ρ ρ') (clos : closureFor scope C.env = pure cl) (hcell : scope.names.all (fun y => decide (y.2 ≠ .cell)) = true) (kind : scope.kind = .function)
    (hnames : scope.names.all (fun y => decide (y.2 = .local → scope.names.lookup y.1 = some .local)) = true) (hcel : (relabel scope C.env).names.all (fun y => decide (y.2 = .cell → (cl.lookup y.1).isSome = true)) = true)
    (hcl : cl.map (fun p => C.env.cells.lookup p.1) = cl.map fun p => some p.2) : Caught C scope cl ρ ρ' where
  clos := clos
  cell := fun y hy => of_decide_eq_true (List.all_eq_true.mp hcell y hy)
  kind := kind
  names := fun y hy => of_decide_eq_true (List.all_eq_true.mp hnames y hy)
  cel := fun y h => Option.isSome_iff_exists.mp (of_decide_eq_true (List.all_eq_true.mp hcel _ (mem_lookup h)) rfl)
  clIn := fun y c h => List.map_inj_left.mp hcl _ (mem_lookup h)
  got := fun y av h => got.all _ (mem_lookup h)

noncomputable def onceL (laid : List Row) : List Row := ((List.range laid.length).filter fun i => decide (i = 0 ∨ laid.getD i rdf ≠ laid.getD (i - 1) rdf)).map fun i => laid.getD i rdf
theorem dRow_inj {a b : Row} : dRow a = dRow b ↔ a = b := by
  unfold dRow
  rw [Dat.tuple.injEq]
  constructor
  · intro h
    simp only [List.cons.injEq, and_true] at h
    obtain ⟨h1, h2, h3⟩ := h
    have e3 : a.2.2 = b.2.2 := by
      simp only [Dat.tuple.injEq, List.cons.injEq, Dat.int.injEq, Int.natCast_inj, and_true] at h3
      obtain ⟨q1, q2, q3, q4⟩ := h3
      cases ha : a.2.2; cases hb : b.2.2
      simp_all
    exact Prod.ext (dK_inj.mp h1) (Prod.ext (DS_inj.mp h2) e3)
  · intro h; rw [h]
theorem rsort_len {rows : List Row} (hn : rows.length = 2 ∨ rows.length = 3 ∨ rows.length = 6) : (rsort rows).length = rows.length := by
  have hspec := chk_ok (R := fun i j => True) (lt := rlt rows) (n := rows.length) (fun a => trivial) (fun zz1 zz2 zz3 zz4 zz5 => trivial) (fun zz1 zz2 zz3 => trivial) (fun zz1 zz2 zz3 => trivial) (kas_sort rows.length) 0 [] bits0 (fun zz1 h => by cases h) (chkN hn)
  unfold rsort
  rw [List.length_map]
  exact hspec.1
theorem rsort_mem {rows : List Row} (hn : rows.length = 2 ∨ rows.length = 3 ∨ rows.length = 6) : ∀ r ∈ rsort rows, r ∈ rows := by
  have hspec := chk_ok (R := fun i j => True) (lt := rlt rows) (n := rows.length) (fun a => trivial) (fun zz1 zz2 zz3 zz4 zz5 => trivial) (fun zz1 zz2 zz3 => trivial) (fun zz1 zz2 zz3 => trivial) (kas_sort rows.length) 0 [] bits0 (fun zz1 h => by cases h) (chkN hn)
  intro r hr
  obtain ⟨i, hi, rfl⟩ := List.mem_map.mp hr
  have hlt := hspec.2.2.1 i hi
  rw [List.getD_eq_getElem?_getD, List.getElem?_eq_getElem hlt]
  exact List.getElem_mem hlt
theorem getD_row {laid : List Row} {k : Nat} (h : k < laid.length) : (laid.map dRow)[k]? = some (dRow (laid.getD k rdf)) := by
  rw [List.getElem?_map, List.getElem?_eq_getElem h, List.getD_eq_getElem?_getD, List.getElem?_eq_getElem h]; rfl

set_option maxHeartbeats 4000000 in
theorem j_once {rows : List Row} (hn : rows.length = 2 ∨ rows.length = 3 ∨ rows.length = 6) (hok : ∀ r ∈ rows, r.Ok) (hinj : ∀ a ∈ rows, ∀ b ∈ rows, a.1 = b.1 → a = b) : FnJ "_law_once" 1 [.list (rows.map dRow)] (.dat (.list ((onceL (rsort rows)).map dRow))) := by
  refine FnJ.intro (ns := ["rows"]) (pr := parsOf "_law_once") (bd := bodyOf "_law_once") (sc := scopeOf "_law_once") (by rfl) (by decide +kernel) (fun doc pm an cd ct => len1 fun a => rfl) rfl (by decide +kernel) (by decide +kernel) (by decide +kernel) ?_
  intro p hh
  have hl := rsort_len hn
  have hmem := rsort_mem hn
  refine ExJ.cons (SxJ.assign (EvJ.callB (bi_sortedRows hn hok hinj) hh (.cons (EvJ.name rfl) .nil)) (.cell rfl rfl) ?_)
  generalize hL : rsort rows = laid at hl hmem ⊢
  have hll : laid.length ≤ 6 := by lia
  have hlen : ((laid.map dRow).length : Int) = ((laid.length : Nat) : Int) := by simp
  refine ExJ.cons (SxJ.ret (EvJ.compE (xs := List.range laid.length) (g := fun i => .int (i : Nat)) (r := fun i => dRow (laid.getD i rdf)) (p := fun i => decide (i = 0 ∨ laid.getD i rdf ≠ laid.getD (i - 1) rdf)) (ρ' := [("laid", .dat (.list (laid.map dRow)))])
    (by rw [List.map_map]; exact ItJ.range (hlen ▸ EvJ.callB (bi_lenL (ds := laid.map dRow) (by simp; lia)) hh (.cons (EvJ.name rfl) .nil)) (by lia)) hh (Caught.of (.dat rfl (by rfl) (by rfl) .nil) (by rfl) (by rfl) (by rfl) (by rfl) (by rfl) (by rfl)) (fun q i hi => ?_) (by simp; lia)) ?_)
  · have hil : i < laid.length := List.mem_range.mp hi
    have hki : kqdOk 8 (dRow (laid.getD i rdf)) = true := kq_row (hok _ (hmem _ (by rw [List.getD_eq_getElem?_getD, List.getElem?_eq_getElem hil]; exact List.getElem_mem hil)))
    refine ⟨.one (TvJ.as (TvJ.orT (u := decide (laid.getD i rdf ≠ laid.getD (i - 1) rdf)) (TvJ.notT (TvJ.val (EvJ.name rfl) tr_int)) fun h => ?_) ?_), fun zz1 => ?_⟩
    · have h0 : i ≠ 0 := by simpa using h
      have hi1 : i - 1 < laid.length := by lia
      have hki1 : kqdOk 8 (dRow (laid.getD (i - 1) rdf)) = true := kq_row (hok _ (hmem _ (by rw [List.getD_eq_getElem?_getD, List.getElem?_eq_getElem hi1]; exact List.getElem_mem hi1)))
      have e1 : (i : Int) - 1 = ((i - 1 : Nat) : Int) := by lia
      refine TvJ.as (TvJ.orT (TvJ.cmp (EvJ.item (EvJ.name rfl) (EvJ.name rfl) (by lia) (getD_row hil) (by lia)) (EvJ.item (i := ((i - 1 : Nat) : Int)) (EvJ.name rfl) (by rw [← e1]; exact EvJ.binop (EvJ.name rfl) EvJ.intC op_sub) (by lia) (getD_row hi1) (by lia)) (op_neD hki hki1 (t := decide (laid.getD i rdf = laid.getD (i - 1) rdf)) (by rw [decide_eq_true_iff]; exact dRow_inj.symm))) fun zz1 => .orNil) ?_
      by_cases q : laid.getD i rdf = laid.getD (i - 1) rdf <;> simp [q]
    · by_cases h0 : i = 0 <;> simp [h0]
    · exact EvJ.item (EvJ.name rfl) (EvJ.name rfl) (by lia) (getD_row hil) (by lia)
  · simp only [RetIs, onceL, List.map_map]
    rfl
end Mine
end
section
open PySem PySem.W PySem.Calls PyProof.Rows PyProof.V
namespace Mine

inductive Passing (s s' : Shared) (e : Value) (n : String × Bool) : Prop
  | mk (a : Addr) (ob : Obj) (vs : Array Value) (T : Addr) (oT : Obj) (ts : Array Value) (he : e = .ref a) (ha : s'.heap.get? a = some ob) (hc : ob.cls = .type n.1) (hd : ob.data = .fields vs) (h2 : n.2 = true → vs[2]? = some .none) (h1 : vs[1]? = some (.ref T))
    (hTa : T ≠ a) (hT : s'.heap.get? T = some oT) (hdT : oT.data = .fields ts) (h3 : ts[3]? = some .none) (h0 : s.heap.get? a = none) (hT0 : s.heap.get? T = none) : Passing s s' e n
noncomputable def FnX (nm : Str) (lv : Nat) (as : List Dat) (n : String × Bool) : Prop :=
  ∀ w mg mb hB A stk Φ s vs a, Site w mg mb hB A stk Φ s lv → DatAll Φ vs as → mg nm = some (.ref a) →
    codeAny (model P w) A (.call (.ref a) ⟨vs, []⟩) (fun res s' => ∃ e Φ', res = .error e ∧ Left stk Φ Φ' s s' ∧ Passing s s' e n) s

theorem FnX.intro {nm : Str} {lv : Nat} {pr : Arguments} {bd : List Stmt} {sc : Scope} {ns : List Str} {ds : List Dat} {n : String × Bool} (hdef : defOf nm P.main.body = some (pr, bd, sc)) (hf : nm ∈ fnNames)
    (hbind : ∀ doc pm an cd ct (vs : List Value), vs.length = ds.length → bindArgs (fnOf nm nm pr bd sc .none .none doc pm an cd ct) ⟨vs, []⟩ = pure (ns.zip vs))
    (hn : ns.length = ds.length) (hnd : ns.Nodup) (hcn : ((cellsFrom 0 sc.names []).map (·.1)).Nodup) (hkd : ∀ x ∈ ns, sc.names.lookup x = some .local ∨ sc.names.lookup x = some .cell)
    (body : ∀ p : FnP, (fnC nm sc lv p).A.handled = none → ExJ (fnC nm sc lv p) (ns.zip (ds.map AV.dat)) bd (fun o => match o with | .exc n' _ => n' = n | _ => False))
    (hsk : sc.kind = .function := by rfl) (hco : sc.isCoroutine = false := by rfl) (hg : sc.isGenerator = false := by rfl) : FnX nm (lv + 1) ds n := by
  intro w mg mb hB A stk Φ s vs a S hD ha
  refine callCore (Z := fun Φ s res s' => ∃ e Φ', res = .error e ∧ Left stk Φ Φ' s s' ∧ Passing s s' e n) S ha hdef hf (fun doc pm an cd ct => wpAny_of_eq (hbind doc pm an cd ct vs hD.length) ⟨vs, Φ, rfl, hD, S, fun zz1 zz2 h => h⟩) hn hnd hcn hkd body (fun Φ1 s1 cd fl s2 h => ?_) (fun Φ1 s1 cd e s2 h => ?_) hsk hco hg
  · obtain ⟨Φ', o', g1, g2, g3⟩ := h
    cases g3.got <;> exact g2.elim
  · obtain ⟨Φ', n', ρ', new, g1, rfl, ⟨f2, H2⟩, hx⟩ := h
    unfold leaving
    refine wpAny_bind (noteGo H2 ⟨_, rfl⟩ hx fun s3 H3 hx3 => flightGo (new := true) H3 hx3 (XIn.tbd hx3) rfl fun s4 H4 hx4 htb4 => ?_)
    refine ⟨e, Φ', rfl, ⟨g1, fun p hp => (H4.src p hp).imp id fun q => ⟨H4.led p hp, q, H4.seq p hp⟩, H4.keep, H4.gens, H4.os⟩, ?_⟩
    obtain ⟨b, ob, vs', e1, hb, hcl, hdt, hb0, _, h2, hcase⟩ := hx4
    obtain ⟨b', ob', vs2, T', e2, hb', hd', h1'⟩ := htb4
    rw [e1] at e2; cases e2
    rw [hb] at hb'; cases hb'
    rw [hdt] at hd'; cases hd'
    rcases hcase with ⟨_, q⟩ | ⟨T, oT, ts, f1, h1, hTa, hT, hdT, hf1, h3, hT0, _⟩
    · rw [q] at h1'; cases h1'
    · exact ⟨b, ob, vs', T, oT, ts, e1, hb, hcl, hdt, h2, h1, hTa, hT, hdT, by rw [h3, if_pos rfl], hb0, hT0⟩

section
variable {C : Cx} {X Φ Φ' : Led} {ρ ρ' : Loc} {s s' : Shared} {cp np pos : Pos} {ds : List Dat} {e : Expr} {n : String × Bool} {Q : Out → Prop}
theorem EvX.call {nm : Str} {lv : Nat} {args : List Expr} (hf : FnX nm lv ds n) (hh : C.A.handled = none) (ha : ArgsL C ρ args ds) (hl : lv ≤ C.lv := by exact Nat.le_of_ble_eq_true rfl) (hnm : nm ∈ fnNames := by decide +kernel)
    (hk : C.env.kindOf nm = some .globalImplicit := by rfl) (ht : backTo cp (starEach args C.env) = args.map fun e => (false, eval e C.env) := by rfl) (hd : (nm == ("__debug__" : Str)) = false := by decide) (hne : args ≠ [] := by simp) :
    EvX C ρ (.Call (.Name nm np) args [] cp) n := fun X Φ f s H => by
  have ok := H.ok
  obtain ⟨a, o, pr, bd, sc, doc, pm, an, cd, ct, e', hm, ho, hdt, hc⟩ := ok.wd.fns nm hnm
  have go := ha.go X Φ f s H
  obtain ⟨e0, es, rfl⟩ := List.exists_cons_of_ne_nil hne
  refine Call_Name ht (Name_function_global ok.kind hk (loadGlobal_global (env := C.env) (by rw [ok.glob]; exact ok.wd.g.keeps H.fr.keep) hm ?_) hd)
  refine callWith_function (o := o) (fd := fnOf nm nm pr bd sc .none .none doc pm an cd ct) (Calls.evalArgs_plain (wpAny_mono go (fun vs s1 ⟨Φ1, g1, H1, i1⟩ => ⟨⟨H1.fr.keep _ _ ho, hdt⟩, ?_⟩) fun zz1 zz2 f => f.elim))
  refine wpAny_call (codeAny_mono (hf C.w C.mg C.mb C.hB C.A C.stk Φ1 s1 vs a (H1.site hh hl) i1 hm) fun res s2 ⟨ex, Φ2, e2, L, hp⟩ => ?_)
  subst e2
  obtain ⟨b, ob, vs', T, oT, ts, rfl, hb, hcl, hdt', h2, h1, hTa, hT, hdT, h3, hb0, hT0⟩ := hp
  obtain ⟨fr, hfr, _⟩ := ok.frame
  have n1 := AtM.new0 H1 hb0
  have n2 := AtM.new0 H1 hT0
  exact ⟨Φ2, fun p hp => L.sub p (g1 p hp), H1.left L, b, ob, vs', rfl, hb, hcl, hdt', n1.1, n1.2, h2, .inr ⟨T, oT, ts, fr, h1, hTa, hT, hdT, hfr, by rw [h3, if_pos rfl], n2.1, n2.2⟩⟩
theorem SxJ.retX (h : EvX C ρ e n) (hq : Q (.exc n ρ)) : SxJ C ρ (.Return (some e) pos) Q := fun X Φ f s H =>
  wpAny_Return_some (wpAny_mono (h X Φ f s H) (fun zz1 zz2 h => h.elim) fun e s' ⟨Φ1, g1, H1, hx⟩ => ⟨Φ1, n, ρ, true, g1, hq, ⟨f, H1⟩, hx⟩)
end
end Mine
end
section
open PySem PySem.W PySem.Calls PyProof.Rows PyProof.V
namespace Mine

theorem j_common_val {lv : Nat} {a b r : List Nat} (h : FnJ "commonpath" lv [.list [DS a, DS b]] (.dat (DS r))) : FnJ "_law_common" (lv + 1) [DS a, DS b] (.dat (DS r)) := by
  refine FnJ.intro (ns := ["one", "two"]) (pr := parsOf "_law_common") (bd := bodyOf "_law_common") (sc := scopeOf "_law_common") (by rfl) (by decide +kernel) (fun doc pm an cd ct => len2 fun a b => rfl) rfl (by decide +kernel) (by decide +kernel) (by decide +kernel) ?_
  intro p hh
  refine ExJ.cons (SxJ.tryQuiet ?_)
  refine ExJ.cons (SxJ.ret (EvJ.callL h hh (.cons (EvJ.listE (.cons (EvJ.name rfl) (.cons (EvJ.name rfl) .nil))) .nil) (Nat.le_refl _)) ?_)
  rfl
theorem j_common_exc {lv : Nat} {a b : List Nat} {fl : Bool} (h : FnX "commonpath" lv [.list [DS a, DS b]] ("ValueError", fl)) : FnJ "_law_common" (lv + 1) [DS a, DS b] (.dat .none) := by
  refine FnJ.intro (ns := ["one", "two"]) (pr := parsOf "_law_common") (bd := bodyOf "_law_common") (sc := scopeOf "_law_common") (by rfl) (by decide +kernel) (fun doc pm an cd ct => len2 fun a b => rfl) rfl (by decide +kernel) (by decide +kernel) (by decide +kernel) ?_
  intro p hh
  have hstk : ∃ outer, (fnC "_law_common" (scopeOf "_law_common") lv p).stk = (fnC "_law_common" (scopeOf "_law_common") lv p).env :: outer := ⟨_, rfl⟩
  refine ExJ.cons (SxJ.tryOne hstk (T := "ValueError") (R := fun zz1 zz2 => True) ?_ ?_ (by rw [isSubtype_type]; kernel_rfl) (by rw [isSubtype_type]; kernel_rfl) (by rw [isSubtype_type]; kernel_rfl) (by rfl) (by decide +kernel) (by rfl) (by decide))
  · exact ExJ.cons (SxJ.retX (EvX.call h hh (.cons (EvJ.listE (.cons (EvJ.name rfl) (.cons (EvJ.name rfl) .nil))) .nil) (Nat.le_refl _)) ⟨rfl, trivial⟩)
  · intro n ρ' _ _ q hq
    exact ExJ.cons (SxJ.ret EvJ.noneC rfl)
end Mine
end
section
open PySem PySem.W PySem.Calls PyProof.Rows PyProof.V
namespace Mine

section
variable {C : Cx} {X Xi Φ Φ' : Led} {ρ ρ' : Loc} {s s' : Shared} {x y : Str} {pos cp tp px py np : Pos} {k : Nat} {e e2 : Expr}

theorem Walker.ofT {I : Addr} {fp wr ax : List Addr} {St : Nat → Heap → Prop} {Mid : Nat → Addr → Heap → Prop} {Φ0 : Led} {w : World} {Pt : Nat → Array Value → Prop} {ds : List (Dat × Dat)} {n : Nat} (hW : ∀ A : Around, A.handled = none → WalksT P w A I fp wr n Pt St Mid) (hn : n = ds.length)
    (hP : ∀ i vals d, Pt i vals → ds[i]? = some d → DatAll Φ0 vals.toList [d.1, d.2]) (hcov : ∀ b ∈ fp, b ∈ ax ∨ b ∈ Φ0.map (·.1)) (hwr : ∀ b ∈ wr, b ∈ ax) (hob : ∀ i h, St i h → ∀ b ∈ ax, ∃ o, h.get? b = some o ∧ Xob o)
    (hself : ∀ A i (s : Shared) (Q : Value → Shared → Prop) (E : Value → Shared → Prop), St i s.heap → Q (.ref I) s → wpAny (model P w) A (pyIter (.ref I)) Q E s) :
    Walker w I fp wr ax St Φ0 (.Tuple [.Name x px, .Name y py] k tp) (ds.map fun d ρ => (y, .dat d.2) :: (x, .dat d.1) :: ρ) := by
  have W0 := hW {} rfl
  refine ⟨W0.frame, hcov, hwr, hob, hself, fun C X Xi Φ ρ f s i g E hw hh hk hΦ hX H st hg => ?_, fun C X Xi Φ ρ f s E hw hh hΦ hX H st => ?_⟩
  · subst hw
    rw [List.getElem?_map] at hg
    obtain ⟨d, hd, rfl⟩ := Option.map_eq_some_iff.mp hg
    have hlt : i < n := by rw [hn]; exact (List.getElem?_eq_some_iff.mp hd).1
    refine (hW C.A hh).item i s _ E hlt st fun T vals h' tk hp hsz hT hmid hkeep => ⟨.ref T, rfl, ?_⟩
    have hTw := (hW C.A hh).apart i T h' hmid
    refine (hW C.A hh).go _ _ _ i T _ _ _ hmid fun h2 st2 hk2 => ?_
    have hwX : ∀ b ∈ wr, b ∈ Xi.map (·.1) := fun b hb => by rw [hX]; exact hwr b hb
    have H2 := AtM.xloose H (wr := wr) hwX (h' := h2) (tk := tk) fun b o hb q => hk2 b o hb (hkeep b o hb q)
    obtain ⟨Xj, e, H3⟩ := AtM.xback H H2 (by rw [hX]; exact hob _ _ st2)
    have hT2 : IsTup h2 T vals := by
      obtain ⟨o, ho, r⟩ := hT
      exact ⟨o, hk2 T o hTw ho, r⟩
    have hD := (hP i vals d hp hd).mono hΦ
    have hl := hD.length
    refine assign_Tuple_tuple hh (items := vals) hT2 (by
      have : vals.size = 2 := by rw [← Array.length_toList, hl]; rfl
      rw [this]; rfl) rfl fun h3 he => ?_
    have kk : ∀ b o, h2.get? b = some o → h3.get? b = some o := fun b o q => he b o (Nat.ne_of_lt (Heap.lt_size q)) q
    have H4 := AtM.keeps H3 (s' := { s with heap := h3, toks := tk }) kk rfl rfl
    have st3 : St (i + 1) h3 := W0.frame _ _ _ st2 fun b zz1 o q => kk b o q
    refine inOrderE (ns := [x, y]) (ds := [d.1, d.2]) rfl rfl hD (hk [x, y] rfl) (AtM.at H4 (C := C) (X := Xj ++ X)) fun s5 ⟨f5, H5⟩ => ⟨Xj, e.trans hX, ⟨f5, H5⟩, ?_⟩
    exact st_keep W0.frame hcov (f := f) (f' := f5) H4 (e.trans hX) hΦ st3 H5 fun zz1 h => h
  · subst hw
    rw [List.length_map, ← hn] at st
    exact (hW C.A hh).done s _ E st fun h' tk hkeep => ⟨rfl, AtM.xloose H (wr := wr) (fun b hb => by rw [hX]; exact hwr b hb) hkeep⟩

theorem ItJ.enum {ds : List Dat} (h : EvJ C ρ e (.dat (.list ds))) (hk : C.env.kindOf "enumerate" = some .globalImplicit := by rfl) (hs : starEach [e] C.env = [(false, eval e C.env)] := by rfl) :
    ItJ C ρ (.Tuple [.Name x px, .Name y py] k tp) (.Call (.Name "enumerate" np) [e] [] cp) ((ds.zipIdx.map fun p => (Dat.int (p.2 : Nat), p.1)).map fun d ρ => (y, .dat d.2) :: (x, .dat d.1) :: ρ) := fun X Φ f s H => by
  refine Call_Name1 (biGo H (by decide +kernel) (by rfl) ?_ hk) hs
  refine PySem.callWith_type1 (wpAny_mono (h X Φ f s H) (fun v s1 ⟨Φ1, g1, H1, i1⟩ => ?_) fun zz1 zz2 f => f)
  obtain ⟨l, vs, n, rfl, hm, hD⟩ := DatIn.listInv i1
  have hlen := hD.length
  have ho := H1.led _ hm
  have hL : s1.heap.IsList l vs.toArray := ⟨_, ho, rfl, _, rfl⟩
  refine call_enumerate_list hL fun h' hE hI hz hk' => ?_
  refine wpAny_pyIter_enum (s := { s1 with heap := h' }) hE ?_
  have hlt := Heap.lt_size ho
  have hnone : ∀ b ∈ [s1.heap.objs.size + 1, s1.heap.objs.size], s1.heap.get? b = none := fun b hb => by
    refine Heap.get?_none_of_le ?_
    rcases List.mem_cons.mp hb with q | q
    · rw [q]; exact Nat.le_succ _
    · rw [mem1 q]; exact Nat.le_refl _
  obtain ⟨Xi, e', H2⟩ := AtM.xput H1 (h' := h') (tk := s1.toks) hk' (ax := [s1.heap.objs.size + 1, s1.heap.objs.size]) (by simp) fun b hb => ⟨hnone b hb, by
    rcases List.mem_cons.mp hb with q | q
    · rw [q]; exact ⟨_, hE, xob_fields rfl⟩
    · obtain ⟨o, ho', _, hd⟩ := hI
      rw [mem1 q]; exact ⟨o, ho', xob_fields hd⟩⟩
  refine ⟨s1.heap.objs.size + 1, [s1.heap.objs.size + 1, s1.heap.objs.size, l], [s1.heap.objs.size + 1, s1.heap.objs.size], [s1.heap.objs.size + 1, s1.heap.objs.size], fun i h => (∃ old, IsEnum h (s1.heap.objs.size + 1) s1.heap.objs.size i old) ∧ h.IsListIter s1.heap.objs.size l i ∧ h.IsList l vs.toArray, Φ1, Xi, rfl, g1, e', H2,
    ⟨⟨_, hE⟩, hI, ⟨_, hk' _ _ ho, rfl, _, rfl⟩⟩, ?_⟩
  refine Walker.ofT (n := vs.toArray.size) (Pt := fun i vals => ∃ t x, vs.toArray[i]? = some x ∧ vals = #[.int i t, x]) (fun A hA => WalksT.enumerate hA (s1.heap.objs.size + 1) s1.heap.objs.size l (Nat.ne_of_gt (Nat.lt_succ_self _)) (Nat.ne_of_lt (Nat.lt_succ_of_lt hlt)) (Nat.ne_of_lt hlt) vs.toArray) (by simp [hlen]) (fun i vals d hp hd => ?_) (fun b hb => ?_) (fun b hb => hb) (fun i h st b hb => ?_) fun A i s Q E st hQ => ?_
  · obtain ⟨t, u, h1, rfl⟩ := hp
    rw [List.getElem?_map] at hd
    obtain ⟨q, hq, rfl⟩ := Option.map_eq_some_iff.mp hd
    rw [List.getElem?_zipIdx] at hq
    obtain ⟨d0, hd0, rfl⟩ := Option.map_eq_some_iff.mp hq
    obtain ⟨u', h3, h4⟩ := datAll_get? hD hd0
    have : u' = u := by
      have h5 : vs[i]? = some u := by simpa using h1
      rw [h3] at h5; exact Option.some.inj h5
    subst this
    refine .cons ?_ (.one h4)
    rw [Nat.zero_add]
    exact .int _ _
  · rcases List.mem_cons.mp hb with q | hb
    · exact .inl (q ▸ .head _)
    · rcases List.mem_cons.mp hb with q | hb
      · exact .inl (q ▸ .tail _ (.head _))
      · exact .inr (mem1 hb ▸ List.mem_map.mpr ⟨_, hm, rfl⟩)
  · obtain ⟨⟨old, hE'⟩, ⟨o, ho', _, hd⟩, _⟩ := st
    rcases List.mem_cons.mp hb with q | q
    · rw [q]; exact ⟨_, hE', xob_fields rfl⟩
    · rw [mem1 q]; exact ⟨o, ho', xob_fields hd⟩
  · obtain ⟨⟨old, hE'⟩, _⟩ := st
    exact wpAny_pyIter_enum hE' hQ

theorem all1 {p : Addr → Prop} {a : Addr} (h : p a) : ∀ b ∈ [a], p b := List.forall_mem_singleton.mpr h
theorem allc {p : Addr → Prop} {a : Addr} {l : List Addr} (h : p a) (r : ∀ b ∈ l, p b) : ∀ b ∈ a :: l, p b := List.forall_mem_cons.mpr ⟨h, r⟩
theorem ItJ.zip {ds es : List Dat} (h : EvJ C ρ e (.dat (.list ds))) (h2 : EvJ C ρ e2 (.dat (.list es))) (hk : C.env.kindOf "zip" = some .globalImplicit := by rfl) (hs : backTo cp (starEach [e, e2] C.env) = [(false, eval e C.env), (false, eval e2 C.env)] := by rfl) :
    ItJ C ρ (.Tuple [.Name x px, .Name y py] k tp) (.Call (.Name "zip" np) [e, e2] [] cp) ((ds.zip es).map fun d ρ => (y, .dat d.2) :: (x, .dat d.1) :: ρ) := fun X Φ f s H => by
  refine Call_Name hs (biGo H (by decide +kernel) (by rfl) ?_ hk)
  refine PyProof.Rows.callWith_type rfl (Calls.evalArgs_plain (Calls.spliced_cons ?_))
  refine wpAny_mono (h X Φ f s H) (fun v s1 ⟨Φ1, g1, H1, i1⟩ => Calls.spliced_cons ?_) fun zz1 zz2 f => f
  refine wpAny_mono (h2 X Φ1 f s1 H1) (fun v2 s2 ⟨Φ2, g2, H2, i2⟩ => Calls.spliced_nil ?_) fun zz1 zz2 f => f
  obtain ⟨l, vs, n, rfl, hm, hD⟩ := DatIn.listInv (DatIn.mono g2 i1)
  obtain ⟨l2, us, n2, rfl, hm2, hE⟩ := DatIn.listInv i2
  have hlen := hD.length
  have hlen2 := hE.length
  have ho := H2.led _ hm
  have ho2 := H2.led _ hm2
  have hL : s2.heap.IsList l vs.toArray := ⟨_, ho, rfl, _, rfl⟩
  have hL2 : s2.heap.IsList l2 us.toArray := ⟨_, ho2, rfl, _, rfl⟩
  have hlt := Heap.lt_size ho
  have hlt2 := Heap.lt_size ho2
  have nn : ∀ k, s2.heap.get? (s2.heap.objs.size + k) = none := fun k => Heap.get?_none_of_le (Nat.le_add_right _ k)
  have xi : ∀ {h : Heap} {I l : Addr} {i : Nat}, h.IsListIter I l i → ∃ o, h.get? I = some o ∧ Xob o := fun ⟨o, ho', _, hd⟩ => ⟨o, ho', xob_fields hd⟩
  refine call_zip_2 hL hL2 fun h' hz hTI hTO hi1 hi2 hsz hk' => ?_
  refine wpAny_pyIter_zip (s := { s2 with heap := h' }) hz ?_
  obtain ⟨Xi, e', H3⟩ := AtM.xput H2 (h' := h') (tk := s2.toks) hk' (ax := [s2.heap.objs.size + 4, s2.heap.objs.size + 2, s2.heap.objs.size + 3, s2.heap.objs.size, s2.heap.objs.size + 1]) (by simp) (allc ⟨nn 4, _, hz, xob_fields rfl⟩ (allc ⟨nn 2, _, hTI, xob_seq rfl⟩ (allc ⟨nn 3, _, hTO, xob_seq rfl⟩ (allc ⟨nn 0, xi hi1⟩ (all1 ⟨nn 1, xi hi2⟩)))))
  refine ⟨s2.heap.objs.size + 4, [s2.heap.objs.size + 4, s2.heap.objs.size + 2, s2.heap.objs.size + 3, s2.heap.objs.size, s2.heap.objs.size + 1, l, l2], [s2.heap.objs.size + 4, s2.heap.objs.size + 3, s2.heap.objs.size, s2.heap.objs.size + 1], [s2.heap.objs.size + 4, s2.heap.objs.size + 2, s2.heap.objs.size + 3, s2.heap.objs.size, s2.heap.objs.size + 1],
    (fun i h => IsZip h (s2.heap.objs.size + 4) (s2.heap.objs.size + 2) (s2.heap.objs.size + 3) .none ∧ IsPair h (s2.heap.objs.size + 2) (.ref s2.heap.objs.size) (.ref (s2.heap.objs.size + 1)) ∧ (∃ a b, IsPair h (s2.heap.objs.size + 3) a b) ∧ h.IsListIter s2.heap.objs.size l i ∧ h.IsListIter (s2.heap.objs.size + 1) l2 i ∧ h.IsList l vs.toArray ∧ h.IsList l2 us.toArray),
    Φ2, Xi, rfl, fun p hp => g2 p (g1 p hp), e', H3, ⟨hz, hTI, ⟨_, _, hTO⟩, hi1, hi2, ⟨_, hk' _ _ ho, rfl, _, rfl⟩, ⟨_, hk' _ _ ho2, rfl, _, rfl⟩⟩, ?_⟩
  refine Walker.ofT (n := min vs.toArray.size us.toArray.size) (fun A hA => WalksT.zip2 hA _ _ _ _ _ l l2 (zipApart_new hlt hlt2) vs.toArray us.toArray) (by simp [hlen, hlen2]) (fun i vals d hp hd => ?_)
    (allc (.inl (.head _)) (allc (.inl (.tail _ (.head _))) (allc (.inl (.tail _ (.tail _ (.head _)))) (allc (.inl (.tail _ (.tail _ (.tail _ (.head _))))) (allc (.inl (.tail _ (.tail _ (.tail _ (.tail _ (.head _)))))) (allc (.inr (List.mem_map.mpr ⟨_, hm, rfl⟩)) (all1 (.inr (List.mem_map.mpr ⟨_, hm2, rfl⟩)))))))))
    (allc (.head _) (allc (.tail _ (.tail _ (.head _))) (allc (.tail _ (.tail _ (.tail _ (.head _)))) (all1 (.tail _ (.tail _ (.tail _ (.tail _ (.head _)))))))))
    (fun i h st => let ⟨z1, z2, ⟨_, _, z3⟩, z4, z5, _⟩ := st; allc ⟨_, z1, xob_fields rfl⟩ (allc ⟨_, z2, xob_seq rfl⟩ (allc ⟨_, z3, xob_seq rfl⟩ (allc (xi z4) (all1 (xi z5)))))) fun A i s Q E st hQ => ?_
  · obtain ⟨u, v, h1, h3, rfl⟩ := hp
    obtain ⟨d1, d2⟩ := d
    have hd' := List.getElem?_zip_eq_some.mp hd
    obtain ⟨u', q1, q2⟩ := datAll_get? hD hd'.1
    obtain ⟨v', q3, q4⟩ := datAll_get? hE hd'.2
    have e1 : u' = u := by
      have h5 : vs[i]? = some u := by simpa using h1
      rw [q1] at h5; exact Option.some.inj h5
    have e2 : v' = v := by
      have h5 : us[i]? = some v := by simpa using h3
      rw [q3] at h5; exact Option.some.inj h5
    subst e1 e2
    exact .cons q2 (.one q4)
  · exact wpAny_pyIter_zip st.1 hQ
end
end Mine
end
section
open PySem PySem.W PySem.Calls PyProof.Rows PyProof.V
namespace Mine

noncomputable def pickD {α : Type} (ds : List α) (lo hi st : Option Int) : List α :=
  (sliceRange (sliceBounds lo hi st ds.length).1 (sliceBounds lo hi st ds.length).2.1 (sliceBounds lo hi st ds.length).2.2).filterMap (ds[·]?)
theorem datAll_idx {Φ : Led} {vs : List Value} {ds : List Dat} (h : DatAll Φ vs ds) : ∀ is : List Nat, DatAll Φ (is.filterMap (vs[·]?)) (is.filterMap (ds[·]?))
  | [] => .nil
  | i :: is => by
    have ih := datAll_idx h is
    rw [List.filterMap_cons, List.filterMap_cons]
    cases e : ds[i]? with
    | none =>
      have : vs[i]? = none := by
        rw [List.getElem?_eq_none_iff] at e ⊢
        rw [h.length]; exact e
      rw [this]; exact ih
    | some d =>
      obtain ⟨v, hv, hi⟩ := datAll_get? h e
      rw [hv]; exact .cons hi ih
theorem datAll_pick {Φ : Led} {vs : List Value} {ds : List Dat} (h : DatAll Φ vs ds) (lo hi st : Option Int) : DatAll Φ (slicePick vs.toArray lo hi st).toList (pickD ds lo hi st) := by
  have := datAll_idx h (sliceRange (sliceBounds lo hi st ds.length).1 (sliceBounds lo hi st ds.length).2.1 (sliceBounds lo hi st ds.length).2.2)
  unfold slicePick pickD
  rw [List.size_toArray, h.length]
  simpa using this

section
variable {C : Cx} {X Φ Φ' : Led} {ρ ρ' : Loc} {s s' : Shared} {pos sp : Pos} {ds : List Dat} {e o : Expr} {lo hi st : Option Int} {el eh es : Option Expr}
theorem EvJ.sliceSt (ho : EvJ C ρ o (.dat (.list ds))) (hl : PartJ C ρ el lo) (hh : PartJ C ρ eh hi) (hs : PartJ C ρ es st) (h0 : st ≠ some 0) (hz : ds.length ≤ 1000000)
    (hsb : ∀ a b, subscripted (.Slice el eh es sp) false (.ref a) (.ref b) = operate [.ref a, .ref b] (getItem (.ref a) (.ref b)) := by intro _ _; with_unfolding_all rfl) : EvJ C ρ (.Subscript o (.Slice el eh es sp) pos) (.dat (.list (pickD ds lo hi st))) := fun X Φ f s H => by
  refine Subscript_ (wpAny_mono (ho X Φ f s H) (fun v1 s1 ⟨Φ1, g1, H1, i1⟩ => ?_) fun zz1 zz2 f => f)
  refine wpAny_Slice (wpAny_mono (hl.go H1) (fun vl s2 ⟨Φ2, g2, H2, i2⟩ => wpAny_mono (hh.go H2) (fun vu s3 ⟨Φ3, g3, H3, i3⟩ => wpAny_mono (hs.go H3) (fun vt s4 ⟨Φ4, g4, H4, i4⟩ => ?_) fun zz1 zz2 f => f) fun zz1 zz2 f => f) fun zz1 zz2 f => f)
  obtain ⟨a, vs, n, rfl, hm, hD⟩ := DatIn.listInv (DatIn.mono (fun p hp => g4 p (g3 p (g2 p hp))) i1)
  have hlen := hD.length
  have ho := Heap.get?_push_of_some { cls := .type "slice", data := .fields #[vl, vu, vt] } (H4.led _ hm)
  have hL : (s4.heap.push { cls := .type "slice", data := .fields #[vl, vu, vt] }).IsList a vs.toArray := ⟨_, ho, rfl, _, rfl⟩
  refine tail_any hL.typeIs slot_list_getitem.lookup (wpAny_getItem_list_slice hL (.new _ _ _ _) i2 i3 i4 h0 ?_ (by rw [List.size_toArray, hlen, sizeLine_eq]; lia)) (hsb _ _)
  have G := (H4.garbage { cls := .type "slice", data := .fields #[vl, vu, vt] } s4.toks).push (listOf (slicePick vs.toArray lo hi st).toList.toArray 0) s4.toks rfl
  have hD2 := datAll_pick hD lo hi st
  refine ⟨_, fun p hp => .tail _ (g4 p (g3 p (g2 p (g1 p hp)))), ?_, .list (vs := (slicePick vs.toArray lo hi st).toList) (n := 0) (.head _) (hD2.mono fun p hp => .tail _ hp)⟩
  simpa using G
theorem pickD_rev {α : Type} (ds : List α) : pickD ds none none (some (-1)) = ds.reverse := by
  unfold pickD
  rw [krv_bounds]
  show (sliceRange ((ds.length : Int) - 1) (-1) (-1)).filterMap (ds[·]?) = _
  rw [krv_sliceRange, krv_range, List.filterMap_reverse]
  have := krv_all ds.toArray
  simp only [List.size_toArray, List.getElem?_toArray] at this
  rw [this]
end
end Mine
end
section
open PySem PySem.W PySem.Calls PyProof.Rows PyProof.V PySem.Spec
namespace Mine

noncomputable def GtAt (A : Around) (s : Shared) (v u : Value) (r : Bool) : Prop := ∀ (prog : Program) (w : World) (E : Value → Shared → Prop) (Q : Value → Shared → Prop), Q (.bool r) s → wpAny (model prog w) A (richCompare .Gt v u) Q E s
inductive LexG (A : Around) (s : Shared) : List Value → List Value → Bool → Prop
  | nil : LexG A s [] [] false
  | nilL (y : Value) (ys : List Value) : LexG A s [] (y :: ys) false
  | nilR (x : Value) (xs : List Value) : LexG A s (x :: xs) [] true
  | eq {x y : Value} {xs ys : List Value} {r : Bool} (h : QAt A s x y true) (t : LexG A s xs ys r) : LexG A s (x :: xs) (y :: ys) r
  | ne {x y : Value} {xs ys : List Value} {r : Bool} (h : QAt A s x y false) (t : GtAt A s x y r) : LexG A s (x :: xs) (y :: ys) r

theorem LexG.ends {A : Around} {s : Shared} {u v : List Value} {r : Bool} (h : LexG A s u v r) (he : u = [] ∨ v = []) : r = decide (v.length < u.length) := by
  cases h with
  | nil => rfl
  | nilL y ys => simp
  | nilR x xs => simp
  | eq h t => rcases he with e | e <;> cases e
  | ne h t => rcases he with e | e <;> cases e
open PySem.Builtin AutoSeq1 MeetsSeq MeetsSeq2 MeetsSeq3 SeqRoads2 in
theorem gt_loopAt (l b : Addr) (xs ys : List Value) (n n2 : Nat) (r : Bool) (k : Nat) :
    ∀ i : Nat, xs.length - i = k → i ≤ xs.length → i ≤ ys.length → Meets (Builtin.«list.__eq__.loop» ⟨[.ref l, .ref b, rawInt i, rawInt 4], []⟩)
      (fun A R s => s.heap.get? l = some { cls := .type "list", dict := none, data := .seq xs.toArray n, slots := #[] } ∧ s.heap.get? b = some { cls := .type "list", dict := none, data := .seq ys.toArray n2, slots := #[] } ∧
        LexG A.in1 s (xs.drop i) (ys.drop i) r ∧ R (.ok (.ret (.bool r))) s) := by
  induction k with
  | zero =>
    intro i hk hix hiy prog w A R s h
    obtain ⟨hp, g, d, tk, os⟩ := s; obtain ⟨hl, hb, he, h⟩ := h
    wp_walk using wpAny_loadPart' hl, wpAny_loadPart' hb
    have hi1 : xs.toArray[((i : Nat) : Int).toNat]? = none := by simp; lia
    rw [hi1]
    wp_walk using wpAny_loadPart' hl, wpAny_loadPart' hb
    show R (.ok (.ret (.bool (decide (ys.toArray.size < xs.toArray.size))))) _
    have hx0 : xs.drop i = [] := List.drop_eq_nil_of_le (by lia)
    have hr := he.ends (.inl hx0)
    rw [List.size_toArray, List.size_toArray]
    have : decide (ys.length < xs.length) = r := by
      rw [hr]
      simp only [List.length_drop]
      by_cases q : ys.length < xs.length
      · rw [decide_eq_true q]; exact (decide_eq_true (by lia)).symm
      · rw [decide_eq_false q]; exact (decide_eq_false (by lia)).symm
    rw [this]; exact h
  | succ k ih =>
    intro i hk hix hiy prog w A R s h
    obtain ⟨hp, g, d, tk, os⟩ := s; obtain ⟨hl, hb, he, h⟩ := h
    wp_walk using wpAny_loadPart' hl, wpAny_loadPart' hb
    have hlt : i < xs.length := by lia
    have hi1 : xs.toArray[((i : Nat) : Int).toNat]? = some xs[i] := by simp [hlt]
    have hc : ((i : Int) + 1) = ((i + 1 : Nat) : Int) := by push_cast; rfl
    rcases Nat.lt_or_ge i ys.length with hlt2 | hge
    · have hi2 : ys.toArray[((i : Nat) : Int).toNat]? = some ys[i] := by simp [hlt2]
      rw [hi1, hi2]
      rw [List.drop_eq_getElem_cons hlt, List.drop_eq_getElem_cons hlt2] at he
      generalize xs[i] = x at he hi1 ⊢
      generalize ys[i] = y at he hi2 ⊢
      generalize hu : xs.drop (i + 1) = u at he
      generalize hv : ys.drop (i + 1) = v at he
      cases he with
      | eq hq ht =>
        refine wpAny_bind (hq prog w _ _ ?_)
        wp_walk
        rw [hc]
        exact ⟨plainId_quiet plain_eq_loop _, codeAny_builtin entry_eq_loop (by
          rw [Around.under_plainId plain_eq_loop _]
          exact ih (i + 1) (by lia) (by lia) (by lia) prog w A R _ ⟨hl, hb, by rw [hu, hv]; exact ht, h⟩)⟩
      | ne hq ht =>
        refine wpAny_bind (hq prog w _ _ ?_)
        wp_walk using wpAny_loadPart' hl, wpAny_loadPart' hb
        rw [hi1, hi2]
        refine wpAny_bind (ht prog w _ _ ?_)
        wp_walk
        exact h
    · have hi2 : ys.toArray[((i : Nat) : Int).toNat]? = none := by simp; lia
      rw [hi1, hi2]
      wp_walk using wpAny_loadPart' hl, wpAny_loadPart' hb
      show R (.ok (.ret (.bool (decide (ys.toArray.size < xs.toArray.size))))) _
      have hy0 : ys.drop i = [] := List.drop_eq_nil_of_le (by lia)
      have hr := he.ends (.inr hy0)
      rw [List.size_toArray, List.size_toArray]
      have : decide (ys.length < xs.length) = r := by
        rw [hr, hy0]
        exact (decide_eq_true (by lia)).trans (decide_eq_true (by simp; lia)).symm
      rw [this]; exact h

open PySem.Builtin AutoSeq1 MeetsSeq MeetsSeq2 MeetsSeq3 SeqRoads2 in
theorem list_gtAt (l b : Addr) (xs ys : List Value) (n n2 : Nat) (r : Bool) :
    Meets (Builtin.«list.__gt__» ⟨[.ref l, .ref b], []⟩)
      (fun A R s => s.heap.get? l = some { cls := .type "list", dict := none, data := .seq xs.toArray n, slots := #[] } ∧ s.heap.get? b = some { cls := .type "list", dict := none, data := .seq ys.toArray n2, slots := #[] } ∧
        LexG A.in1 s xs ys r ∧ R (.ok (.ret (.bool r))) s) := by
  intro prog w A R s h
  obtain ⟨hp, g, d, tk, os⟩ := s; obtain ⟨hl, hb, he, h⟩ := h
  have f3 := AutoSeq1.sub_list_list
  wp_walk using wpAny_loadPart' hl, wpAny_loadPart' hb
  exact ⟨plainId_quiet plain_eq_loop _, codeAny_builtin entry_eq_loop (by
    rw [Around.under_plainId plain_eq_loop _]
    exact gt_loopAt l b xs ys n n2 r _ 0 rfl (Nat.zero_le _) (Nat.zero_le _) prog w A R _ ⟨hl, hb, by simpa using he, h⟩)⟩
theorem listGt {A : Around} {s : Shared} {a b : Addr} {xs ys : List Value} {n n2 : Nat} {r : Bool} (hu : A.units < cLine) (ha : s.heap.get? a = some (listOf xs.toArray n)) (hb : s.heap.get? b = some (listOf ys.toArray n2)) (h : LexG A.in1 s xs ys r) : GtAt A s (.ref a) (.ref b) r := fun prog w E Q hq =>
  richCompare_meets_room (op := .Gt) ⟨_, ha, rfl⟩ ⟨_, hb, rfl⟩ F.slot_list_gt F.entry_list_gt (F.args_list_gt_2 _ _) (list_gtAt a b xs ys n n2 r)
    ⟨ha, hb, h, show Value.bool r ≠ Value.notImplemented ∧ Q (.bool r) s from ⟨(fun x => nomatch x), hq⟩⟩ hu

section
variable {A : Around} {s : Shared} {Φ : Led}
theorem lexGOf {α : Type} [LT α] [DecidableEq α] [DecidableLT α] {g : α → Dat} (hg : ∀ x y, g x = g y ↔ x = y) (hirr : ∀ x : α, ¬ x < x) {h₀ : Heap} {L : Addr} (N : News h₀ L s.heap Φ) (hu : A.units + 64 < cLine)
    (hgt : ∀ (x y : α) (u v : Value), DatIn Φ u (g x) → DatIn Φ v (g y) → GtAt A s u v (decide (y < x))) :
    ∀ {xs ys : List α} {us vs : List Value}, (∀ x ∈ xs, kqdOk 8 (g x) = true) → (∀ y ∈ ys, kqdOk 8 (g y) = true) → DatAll Φ us (xs.map g) → DatAll Φ vs (ys.map g) → LexG A s us vs (decide (ys < xs)) := by
  intro xs
  induction xs with
  | nil =>
    intro ys us vs _ _ h1 h2
    have h1 : DatAll Φ us [] := h1
    cases h1
    cases ys with
    | nil =>
      have h2 : DatAll Φ vs [] := h2
      cases h2
      rw [decide_eq_false (List.not_lt_nil _)]; exact .nil
    | cons y ys =>
      have h2 : DatAll Φ vs (g y :: ys.map g) := h2
      cases h2
      rw [decide_eq_false (List.not_lt_nil _)]; exact .nilL _ _
  | cons x xs ih =>
    intro ys us vs kx ky h1 h2
    have h1 : DatAll Φ us (g x :: xs.map g) := h1
    cases h1 with
    | cons h r => ?_
    cases ys with
    | nil =>
      have h2 : DatAll Φ vs [] := h2
      cases h2
      rw [decide_eq_true (List.nil_lt_cons x xs)]; exact .nilR _ _
    | cons y ys =>
      have h2 : DatAll Φ vs (g y :: ys.map g) := h2
      cases h2 with
      | cons h2 r2 => ?_
      by_cases e : x = y
      · subst e
        rw [lt_same hirr]
        exact .eq (qat N h h2 (kx x (.head _)) (ky x (.head _)) hu (iff_of_true rfl rfl)) (ih (fun z hz => kx z (.tail _ hz)) (fun z hz => ky z (.tail _ hz)) r r2)
      · rw [lt_ne (Ne.symm e)]
        exact .ne (qat N h h2 (kx x (.head _)) (ky y (.head _)) hu (iff_of_false Bool.false_ne_true fun q => e ((hg x y).mp q))) (hgt x y _ _ h h2)
theorem gtTxt (x y : List Nat) (u v : Value) (h1 : DatIn Φ u (DS x)) (h2 : DatIn Φ v (DS y)) : GtAt A s u v (decide (y < x)) := fun prog w E Q hq => by
  cases h1; cases h2; exact P.gt_str hq
theorem ltTxts {h₀ : Heap} {L : Addr} (N : News h₀ L s.heap Φ) (hu : A.units + 65 < cLine) {xs ys : List (List Nat)} (hx : ∀ x ∈ xs, Asc x) (hy : ∀ y ∈ ys, Asc y) (u v : Value) (h1 : DatIn Φ u (.list (xs.map DS))) (h2 : DatIn Φ v (.list (ys.map DS))) : LtAt A s u v (decide (xs < ys)) := by
  obtain ⟨a, us, n, rfl, hm, hD⟩ := DatIn.listInv h1
  obtain ⟨b, vs, n2, rfl, hm2, hE⟩ := DatIn.listInv h2
  exact listLt (by lia) (N _ hm).1 (N _ hm2).1 (lexOf (A := A.in1) (g := DS) (fun zz1 zz2 => DS_inj) (fun x => List.lt_irrefl x) N (by show A.units + 1 + 64 < cLine; lia) ltTxt (fun x h => kq_str (hx x h) 8) (fun y h => kq_str (hy y h) 8) hD hE)
theorem gtTxts {h₀ : Heap} {L : Addr} (N : News h₀ L s.heap Φ) (hu : A.units + 65 < cLine) {xs ys : List (List Nat)} (hx : ∀ x ∈ xs, Asc x) (hy : ∀ y ∈ ys, Asc y) (u v : Value) (h1 : DatIn Φ u (.list (xs.map DS))) (h2 : DatIn Φ v (.list (ys.map DS))) : GtAt A s u v (decide (ys < xs)) := by
  obtain ⟨a, us, n, rfl, hm, hD⟩ := DatIn.listInv h1
  obtain ⟨b, vs, n2, rfl, hm2, hE⟩ := DatIn.listInv h2
  exact listGt (by lia) (N _ hm).1 (N _ hm2).1 (lexGOf (A := A.in1) (g := DS) (fun zz1 zz2 => DS_inj) (fun x => List.lt_irrefl x) N (by show A.units + 1 + 64 < cLine; lia) gtTxt (fun x h => kq_str (hx x h) 8) (fun y h => kq_str (hy y h) 8) hD hE)
end
end Mine
end
section
open PySem PySem.W PySem.Calls PyProof.Rows PyProof.V
namespace Mine

theorem owner_map : Manifest.owners.lookup (String.ofList ['p', 'a', 'm'].reverse) = some Manifest.sig_map := by kernel_rfl
theorem slot_map_init : Slot "map" "__init__" "object.__init__" :=
  .of (owner := "object") (n := "__init__") (by rw [typeLookup_type, builtinLookup_eq_fast]; kernel_rfl) (by decide +kernel) (by decide +kernel) (by decide +kernel)
    (by first | exact .inl (by decide +kernel) | exact .inr (by decide +kernel)) (by rw [isSubtype_type]; kernel_rfl)
theorem slot_map_iter : Slot "map" "__iter__" "map.__iter__" :=
  .of (owner := "map") (n := "__iter__") (by rw [typeLookup_type, builtinLookup_eq_fast]; kernel_rfl) (by decide +kernel) (by decide +kernel) (by decide +kernel)
    (by first | exact .inl (by decide +kernel) | exact .inr (by decide +kernel)) (by rw [isSubtype_type]; kernel_rfl)
theorem args_map_iter_1 (a : Value) : argsOk "map.__iter__" ⟨[a], []⟩ := by
  unfold argsOk; rw [signature?_of (id := "map.__iter__") (n := ['_', '_', 'r', 'e', 't', 'i', '_', '_']) (o := ['p', 'a', 'm']) (by kernel_rfl) owner_map]; kernel_rfl
theorem slot_map_next : Slot "map" "__next__" "map.__next__" :=
  .of (owner := "map") (n := "__next__") (by rw [typeLookup_type, builtinLookup_eq_fast]; kernel_rfl) (by decide +kernel) (by decide +kernel) (by decide +kernel)
    (by first | exact .inl (by decide +kernel) | exact .inr (by decide +kernel)) (by rw [isSubtype_type]; kernel_rfl)
theorem entry_map_next : entryFor table "map.__next__" = some Builtin.«map.__next__» := entryFor_of_tree (by kernel_rfl)
theorem args_map_next_1 (a : Value) : argsOk "map.__next__" ⟨[a], []⟩ := by
  unfold argsOk; rw [signature?_of (id := "map.__next__") (n := ['_', '_', 't', 'x', 'e', 'n', '_', '_']) (o := ['p', 'a', 'm']) (by kernel_rfl) owner_map]; kernel_rfl
theorem entry_map_iter : entryFor table "map.__iter__" = some Builtin.«dict_keyiterator.__iter__» :=
  entryFor_alias (id' := "dict_keyiterator.__iter__") (by rw [fastTable_eq_tree]; kernel_rfl) (by first | rfl | decide +kernel | (unfold String.splitOn; simp +decide [String.splitOnAux])) (by decide +kernel) (by rw [fastTable_eq_tree]; kernel_rfl)
theorem mro_map : mroOf (.type "map") = pure [.type "map", .type "object"] := by rw [mroOf_type]; kernel_rfl
theorem lookup_map_new : typeLookup (.type "map") "__new__" = pure (some (.builtin "map.__new__")) := by rw [typeLookup_type, builtinLookup_eq_fast]; kernel_rfl
theorem called_map : TypeCalled "map" "map.__new__" "object.__init__" :=
  ⟨by decide +kernel, by decide +kernel, ⟨_, _, mro_map⟩, madeBy_type mro_map lookup_map_new (by decide +kernel), by decide +kernel, by rw [isSubtype_type]; kernel_rfl, slot_map_init⟩
theorem typeCall_map_2 (a b : Value) : checkTypeCall "map" ⟨[a, b], []⟩ = pure () := by kernel_rfl
theorem newCall_map_2 (a b : Value) : checkBuiltinCall "map.__new__" ⟨[.type "map", a, b], []⟩ = pure () := by kernel_rfl
theorem entry_map_new : entryFor table "map.__new__" = some Builtin.«map.__new__» := entryFor_of_tree (by kernel_rfl)
theorem sub_map : isSubtype (.type "map") (.type "map") = pure true := by rw [isSubtype_type]; kernel_rfl
theorem map_no_len : typeLookup (.type "map") "__len__" = pure none := by rw [typeLookup_type, builtinLookup_eq_fast]; kernel_rfl
theorem map_no_hint : typeLookup (.type "map") "__length_hint__" = pure none := by rw [typeLookup_type, builtinLookup_eq_fast]; kernel_rfl

noncomputable abbrev mapH1 (h : Heap) (l : Addr) : Heap := h.push { cls := .type "list_iterator", data := .fields #[.ref l, .int 0 0] }
noncomputable abbrev mapH2 (h : Heap) (l : Addr) : Heap := (mapH1 h l).push { cls := .type "tuple", data := .seq #[.ref h.objs.size] }
noncomputable abbrev mapH3 (h : Heap) (f : Value) (l : Addr) : Heap := (mapH2 h l).push { cls := .type "map", data := .fields #[.ref (mapH1 h l).objs.size, f] }

theorem meets_map_new (f : Value) (l : Addr) (xs : Array Value) :
    Meets (Builtin.«map.__new__» ⟨[.type "map", f, .ref l], []⟩) (fun zz1 R s => s.heap.IsList l xs ∧
      R (.ok (.ret (.ref (mapH2 s.heap l).objs.size))) { s with heap := mapH3 s.heap f l }) :=
  .of_wp fun prog w A R s h => by
    obtain ⟨hp, g, d, tk, os⟩ := s; obtain ⟨hl1, h⟩ := h
    have hsub := sub_map
    have hL1 : Heap.IsList (Shared.heap ⟨hp, g, d, tk, os⟩) l xs := hl1
    wp_walk using wpAny_pyIter_list hL1
    exact ⟨_, rfl, h⟩

theorem call_map_2 {prog : Program} {w : World} {A : Around} {E : Value → Shared → Prop} {s : Shared} {f : Value} {l : Addr} {xs : Array Value} {Q : Value → Shared → Prop} (hl : s.heap.IsList l xs)
    (h : Q (.ref (s.heap.objs.size + 2)) { s with heap := mapH3 s.heap f l }) : wpAny (model prog w) A (call (.type "map") [f, .ref l]) Q E s := by
  refine callType_new called_map (by decide) (typeCall_map_2 _ _) (newCall_map_2 _ _) (fun obj => F.args_object_init_3 obj _ _) entry_map_new (meets_map_new f l xs) ⟨hl, ?_⟩
  have z1 : (mapH1 s.heap l).objs.size = s.heap.objs.size + 1 := Heap.size_push ..
  have z2 : (mapH2 s.heap l).objs.size = s.heap.objs.size + 2 := by rw [Heap.size_push, z1]
  refine ⟨⟨_, Heap.get?_push_size _ rfl, rfl⟩, ?_⟩
  rw [z2]
  exact h

noncomputable abbrev IsMap (h : Heap) (M TI : Addr) (f : Value) : Prop := h.get? M = some { cls := .type "map", data := .fields #[.ref TI, f] }
noncomputable abbrev IsOne (h : Heap) (TI : Addr) (v : Value) : Prop := h.get? TI = some { cls := .type "tuple", data := .seq #[v] }

structure Near (C : Cx) (A : Around) : Prop where
  frames : A.frames = C.A.frames
  handled : A.handled = none
  depth : A.depth = C.A.depth
  units : A.units ≤ C.A.units + 12
theorem Near.in1 {C : Cx} {A : Around} (h : Near C A) (hu : A.units + 1 ≤ C.A.units + 12) : Near C A.in1 := ⟨h.frames, h.handled, h.depth, hu⟩

section
variable {C : Cx} {X Xi Φ Φ' : Led} {ρ ρ' : Loc} {m : Str → Option Value} {ow : List OwnE} {s s' : Shared} {x y : Str} {pos sp ap cp tp px py np : Pos} {e o tg : Expr} {A : Around}

theorem AtM.siteN (H : AtM C X Φ ρ m ow s) (N : Near C A) {lv : Nat} (hl : lv + 1 ≤ C.lv) : Site C.w C.mg C.mb C.hB A C.stk Φ s lv where
  wd := H.ok.wd
  base := H.fr.keep
  frames := N.frames.trans H.ok.stk
  stk := H.stk
  hand := N.handled
  room := by
    have h1 := H.ok.room
    have h2 := N.depth
    have h3 := N.units
    lia
  led := H.led
  seq := H.seq
  above := Nat.le_trans H.fr.above (Nat.le_of_lt H.fr.ns.lt)

theorem AtM.xturn (H : AtM C (Xi ++ X) Φ ρ m ow s) {wr : List Addr} (hw : ∀ b ∈ wr, b ∈ Xi.map (·.1)) {h' : Heap} {tk : Nat} (k : ∀ b o, b ∉ wr → s.heap.get? b = some o → h'.get? b = some o)
    (he : ∀ b ∈ wr, ∃ o, h'.get? b = some o ∧ Xob o) : ∃ Xj : Led, Xj.map (·.1) = Xi.map (·.1) ∧ AtM C (Xj ++ X) Φ ρ m ow { s with heap := h', toks := tk } := by
  refine AtM.xback H (AtM.xloose H hw (tk := tk) k) fun b hb => ?_
  by_cases q : b ∈ wr
  · exact he b q
  · obtain ⟨p, hp, rfl⟩ := List.mem_map.mp hb
    exact ⟨p.2, k _ _ q (H.xtr p (List.mem_append_left _ hp)), fun es n => (H.xtrm p (List.mem_append_left _ hp)).2 es n, H.xcel p (List.mem_append_left _ hp)⟩
theorem AtM.xsame {m' : Str → Option Value} {ow' : List OwnE} (H : AtM C X Φ ρ m ow s) (H' : AtM C X Φ' ρ' m' ow' s') {b : Addr} (hb : b ∈ X.map (·.1)) {o : Obj} (ho : s.heap.get? b = some o) : s'.heap.get? b = some o := by
  obtain ⟨p, hp, rfl⟩ := List.mem_map.mp hb
  have := H.xtr p hp
  rw [ho] at this; cases this
  exact H'.xtr p hp

structure MapAt (h : Heap) (M TI I l : Addr) (f : Value) (xs : Array Value) (i : Nat) : Prop where
  m : IsMap h M TI f
  t : IsOne h TI (.ref I)
  i : h.IsListIter I l i
  l : h.IsList l xs
theorem MapAt.keep {h h' : Heap} {M TI I l : Addr} {f : Value} {xs : Array Value} {i : Nat} (x : MapAt h M TI I l f xs i) (k : ∀ b ∈ [M, TI, I, l], ∀ o, h.get? b = some o → h'.get? b = some o) : MapAt h' M TI I l f xs i :=
  ⟨k _ (by simp) _ x.m, k _ (by simp) _ x.t, by
    obtain ⟨o, ho, r⟩ := x.i
    exact ⟨o, k _ (by simp) _ ho, r⟩, by
    obtain ⟨o, ho, r⟩ := x.l
    exact ⟨o, k _ (by simp) _ ho, r⟩⟩

theorem mapItem {nm : Str} {lv : Nat} {f : Fm} {M TI I l fa : Addr} {xs : Array Value} {i : Nat} {v : Value} {d r : Dat} {E : Value → Shared → Prop} (hf : FnJ nm lv [d] (.dat r)) (hfa : C.mg nm = some (.ref fa)) (hlv : lv + 1 ≤ C.lv) (N : Near C A) (hu : A.units + 4 ≤ C.A.units + 12)
    (H : AtF C (Xi ++ X) Φ ρ f s) (hX : ∀ b ∈ [M, TI, I], b ∈ Xi.map (·.1)) (hl : l ∈ Φ.map (·.1)) (hI : I ≠ M ∧ I ≠ TI ∧ I ≠ l) (S : MapAt s.heap M TI I l (.ref fa) xs i) (hv : xs[i]? = some v) (hd : DatIn Φ v d) :
    wpAny (model P C.w) A (pyNext (.ref M)) (fun q s1 => ∃ v' Φ' Xj, q = some v' ∧ (∀ p ∈ Φ, p ∈ Φ') ∧ Xj.map (·.1) = Xi.map (·.1) ∧ AtF C (Xj ++ X) Φ' ρ f s1 ∧ MapAt s1.heap M TI I l (.ref fa) xs (i + 1) ∧ DatIn Φ' v' r ∧
      ∀ b ∈ Xi.map (·.1), b ≠ I → ∀ o, s.heap.get? b = some o → s1.heap.get? b = some o) E s := by
  have hT : s.TypeIs (.ref M) "map" := ⟨_, S.m, rfl⟩
  unfold pyNext
  refine wpAny_bind (wpAny_attempt (wpAny_callSpecial?_slot (name := Str.ofString "__next__") hT slot_map_next (wpAny_call_entry slot_map_next hT entry_map_next ?_ (args_map_next_1 _))))
  show wpAny _ _ (field (.ref M) 0 >>= _) _ _ _
  refine wpAny_bind (wpAny_field S.m rfl (x := .ref TI) rfl ?_)
  refine wpAny_bind (wpAny_seqItems S.t rfl ?_)
  refine wpAny_bind (wpAny_arrayLoop ?_)
  simp only [List.forIn_cons, List.forIn_nil]
  refine wpAny_bind (wpAny_bind (wpAny_holding ?_))
  refine wpAny_nextOf_list_item S.i S.l hv fun h₁ i₁ k₁ => ?_
  refine wpAny_pure (wpAny_pure ?_)
  obtain ⟨Xj, e1, H1⟩ := AtM.xturn H (wr := [I]) (fun b hb => by rw [mem1 hb]; exact hX _ (by simp)) (h' := h₁) (tk := s.toks) (fun b o hb e => (k₁.2 b fun q => hb (q ▸ .head _)).trans e) fun b hb => by
    rw [mem1 hb]
    obtain ⟨o, ho, _, hd⟩ := i₁
    exact ⟨o, ho, xob_fields hd⟩
  have S1 : MapAt h₁ M TI I l (.ref fa) xs (i + 1) := ⟨(k₁.2 M (Ne.symm hI.1)).trans S.m, (k₁.2 TI (Ne.symm hI.2.1)).trans S.t, i₁, by
    obtain ⟨o, ho, r⟩ := S.l
    exact ⟨o, (k₁.2 l (Ne.symm hI.2.2)).trans ho, r⟩⟩
  show wpAny _ _ (field (.ref M) 1 >>= _) _ _ _
  refine wpAny_bind (wpAny_field S1.m rfl (x := .ref fa) rfl ?_)
  refine wpAny_bind (wpAny_holding (wpAny_call ?_))
  have N' : Near C A.in1.in1 := (N.in1 (by lia)).in1 (by show A.units + 1 + 1 ≤ _; lia)
  refine codeAny_mono (hf C.w C.mg C.mb C.hB A.in1 C.stk Φ { s with heap := h₁ } [v] fa (AtM.siteN H1 (N.in1 (by lia)) hlv) (.one hd) hfa) fun res s2 ⟨u, Φ2, er, iu, L⟩ => ?_
  subst er
  have H2 := AtM.left H1 L
  refine wpAny_bind (wpAny_letGo ?_)
  refine wpAny_pure ⟨_, rfl, ?_⟩
  refine wpAny_pure ⟨u, Φ2, Xj, rfl, L.sub, e1, H2, ?_, iu, fun b hb hbI o ho => ?_⟩
  · refine S1.keep fun b hb o ho => ?_
    by_cases q : b = l
    · obtain ⟨p, hp, e⟩ := List.mem_map.mp hl
      subst q
      have h1 := H1.led p hp
      rw [e] at h1
      have h2 : some o = some p.2 := ho.symm.trans h1
      rw [Option.some.inj h2, ← e]
      exact H2.led p (L.sub p hp)
    · have hb' : b ∈ [M, TI, I] := by
        simp only [List.mem_cons, List.not_mem_nil, or_false] at hb ⊢
        rcases hb with h | h | h | h
        · exact .inl h
        · exact .inr (.inl h)
        · exact .inr (.inr h)
        · exact absurd h q
      exact AtM.xsame H1 H2 (by rw [List.map_append, e1]; exact List.mem_append_left _ (hX b hb')) ho
  · exact AtM.xsame H1 H2 (by rw [List.map_append, e1]; exact List.mem_append_left _ hb) ((k₁.2 b hbI).trans ho)

theorem mapEnd {f : Fm} {M TI I l : Addr} {g : Value} {xs : Array Value} {i : Nat} {E : Value → Shared → Prop} (hh : A.handled = none)
    (H : AtF C (Xi ++ X) Φ ρ f s) (hX : I ∈ Xi.map (·.1)) (S : MapAt s.heap M TI I l g xs i) (hv : xs[i]? = none) :
    wpAny (model P C.w) A (pyNext (.ref M)) (fun q s1 => q = none ∧ AtF C X Φ ρ f s1 ∧ (∀ b o, b ≠ I → s.heap.get? b = some o → s1.heap.get? b = some o)) E s := by
  have hT : s.TypeIs (.ref M) "map" := ⟨_, S.m, rfl⟩
  unfold pyNext
  refine wpAny_bind (wpAny_attempt (wpAny_callSpecial?_slot (name := Str.ofString "__next__") hT slot_map_next (wpAny_call_entry slot_map_next hT entry_map_next ?_ (args_map_next_1 _))))
  show wpAny _ _ (field (.ref M) 0 >>= _) _ _ _
  refine wpAny_bind (wpAny_field S.m rfl (x := .ref TI) rfl ?_)
  refine wpAny_bind (wpAny_seqItems S.t rfl ?_)
  refine wpAny_bind (wpAny_arrayLoop ?_)
  simp only [List.forIn_cons, List.forIn_nil]
  refine wpAny_bind (wpAny_bind (wpAny_holding ?_))
  refine wpAny_nextOf_list_end hh S.i S.l hv fun h₁ e₁ k₁ ⟨o, ho, hc⟩ => ?_
  refine wpAny_bind (wpAny_isInstance (T := "StopIteration") (b := true) ⟨o, ho, hc⟩ isSubtype_stop ?_)
  refine wpAny_pure ⟨rfl, ?_, fun b o hb e => k₁ b o hb e⟩
  exact AtM.xloose H (wr := [I]) (fun b hb => by rw [mem1 hb]; exact hX) (h' := h₁) (tk := s.toks) fun b o hb e => k₁ b o (fun q => hb (q ▸ .head _)) e
end
end Mine
end
section
open PySem PySem.W PySem.Calls PyProof.Rows PyProof.V
namespace Mine

section
variable {C : Cx} {X Xi Φ Φ' : Led} {ρ ρ' : Loc} {m : Str → Option Value} {ow : List OwnE} {s s' : Shared} {x y : Str} {pos sp ap cp tp px py np : Pos} {e o tg : Expr} {A : Around}

theorem AtM.xperm {X' : Led} (H : AtM C X Φ ρ m ow s) (hp : X'.Perm X) : AtM C X' Φ ρ m ow s :=
  { H with xtr := fun q hq => H.xtr q (hp.mem_iff.mp hq), xtrm := fun q hq => H.xtrm q (hp.mem_iff.mp hq), xled := fun q hq => H.xled q (hp.mem_iff.mp hq), xnew := fun q hq => H.xnew q (hp.mem_iff.mp hq), xcel := fun q hq => H.xcel q (hp.mem_iff.mp hq), xnd := ((hp.map _).nodup_iff).mpr H.xnd }
theorem led4 {Xk : Led} {a b c d : Addr} (h : Xk.map (·.1) = [a, b, c, d]) : ∃ p0 p1 p2 p3 : Addr × Obj, Xk = [p0, p1, p2, p3] ∧ p0.1 = a ∧ p1.1 = b ∧ p2.1 = c ∧ p3.1 = d := by
  obtain ⟨p0, t0, rfl, h0, h⟩ := List.map_eq_cons_iff.mp h
  obtain ⟨p1, t1, rfl, h1, h⟩ := List.map_eq_cons_iff.mp h
  obtain ⟨p2, t2, rfl, h2, h⟩ := List.map_eq_cons_iff.mp h
  obtain ⟨p3, t3, rfl, h3, h⟩ := List.map_eq_cons_iff.mp h
  rw [List.map_eq_nil_iff.mp h]
  exact ⟨_, _, _, _, rfl, h0, h1, h2, h3⟩
theorem sz_push {α : Type} {vs : List α} {v : α} : vs.toArray.push v = (vs ++ [v]).toArray := by simp

theorem mapLoop {nm : Str} {lv : Nat} {M TI I l S fa : Addr} {vs : List Value} {ds : List Dat} {g : Dat → Dat} {R : Result → Shared → Prop} (hf : ∀ d ∈ ds, FnJ nm lv [d] (.dat (g d))) (hfa : C.mg nm = some (.ref fa)) (hlv : lv + 1 ≤ C.lv) (N : Near C A) (hu : A.units + 5 ≤ C.A.units + 12)
    (hI : I ≠ M ∧ I ≠ TI ∧ I ≠ l ∧ I ≠ S) (hS : S ≠ M ∧ S ≠ TI ∧ S ≠ l) (hz : vs.length ≤ 1000000) (res : Value) : ∀ (k i : Nat) (Xi Φ : Led) (f : Fm) (s : Shared) (acc : List Value) (c : Nat), vs.length - i = k → i ≤ vs.length →
      Xi.map (·.1) = [M, TI, I, S] → AtF C (Xi ++ X) Φ ρ f s → l ∈ Φ.map (·.1) → DatAll Φ vs ds → MapAt s.heap M TI I l (.ref fa) vs.toArray i → s.heap.get? S = some (listOf acc.toArray c) → DatAll Φ acc ((ds.take i).map g) →
      (∀ s' Φ' acc' c', (∀ p ∈ Φ, p ∈ Φ') → AtF C X Φ' ρ f s' → s'.heap.get? S = some (listOf acc'.toArray c') → DatAll Φ' acc' (ds.map g) → R (.ok (.ret res)) s') →
      codeAny (model P C.w) A (.builtin "list.extend.loop" ⟨[.ref S, .ref M, res], []⟩) R s := by
  intro k
  induction k with
  | zero =>
    intro i Xi Φ f s acc c hk hi hX H hl hD MA hs ha hR
    have hin : i = vs.length := by lia
    subst hin
    refine codeAny_builtin F.entry_extend_loop ?_
    rw [Around.under_plainId F.plain_extend_loop _]
    show wpAny _ A.in1 (pyNext (.ref M) >>= _) _ _ s
    refine wpAny_bind (wpAny_mono (mapEnd (A := A.in1) (E := fun zz1 zz2 => False) N.handled H (by rw [hX]; simp) MA (by simp)) (fun q s1 ⟨hq, H1, k1⟩ => ?_) fun zz1 zz2 f => f.elim)
    subst hq
    refine wpAny_pure (hR s1 Φ acc c (fun zz1 h => h) H1 (k1 S _ (Ne.symm hI.2.2.2) hs) ?_)
    rwa [hD.length, List.take_length] at ha
  | succ k ih =>
    intro i Xi Φ f s acc c hk hi hX H hl hD MA hs ha hR
    have hlt : i < vs.length := by lia
    have hlt2 : i < ds.length := by rw [← hD.length]; exact hlt
    refine codeAny_builtin F.entry_extend_loop ?_
    rw [Around.under_plainId F.plain_extend_loop _]
    show wpAny _ A.in1 (pyNext (.ref M) >>= _) _ _ s
    obtain ⟨v, hv, hvd⟩ := datAll_get? hD (List.getElem?_eq_getElem hlt2)
    refine wpAny_bind (wpAny_mono (mapItem (A := A.in1) (E := fun zz1 zz2 => False) (hf _ (List.getElem_mem hlt2)) hfa hlv (N.in1 (by lia)) (by show A.units + 1 + 4 ≤ _; lia) H (fun b hb => by rw [hX]; simp only [List.mem_cons, List.not_mem_nil, or_false] at hb ⊢; rcases hb with h | h | h <;> simp [h]) hl ⟨hI.1, hI.2.1, hI.2.2.1⟩ MA (by simpa using hv) hvd) (fun q s1 h1 => ?_) fun zz1 zz2 f => f.elim)
    obtain ⟨u, Φ1, Xj, rfl, g1, e1, H1, MA1, iu, ks⟩ := h1
    have hs1 := ks S (by rw [hX]; simp) (Ne.symm hI.2.2.2) _ hs
    have hal := ha.length
    have hacc : acc.length ≤ i := by rw [hal, List.length_map, List.length_take]; lia
    show wpAny _ A.in1 (updateSeq S (·.push u) >>= _) _ _ _
    refine wpAny_bind ?_
    have hup := get?_update_seq hs1 (·.push u)
    rw [sz_push] at hup
    obtain ⟨Xk, e2, H2⟩ := AtM.xturn H1 (wr := [S]) (fun b hb => by rw [mem1 hb, e1, hX]; simp) (h' := s1.heap.update S (Obj.mapSeq (·.push u))) (tk := s1.toks) (fun b o hb e => (Heap.get?_update_other _ _ (fun q : S = b => hb (q ▸ .head _))).trans e) fun b hb => by
      rw [mem1 hb]; exact ⟨_, hup, xob_seq rfl⟩
    refine wpAny_updateSeq hs1 rfl (wpAny_pure ⟨plainId_quiet F.plain_extend_loop _, ih (i + 1) Xk Φ1 f _ (acc ++ [u]) _ (by lia) hlt (e2.trans (e1.trans hX)) H2 ?_ (hD.mono g1) ?_ hup ?_ fun s' Φ' acc' c' g3 => hR s' Φ' acc' c' fun p hp => g3 p (g1 p hp)⟩)
      (by rw [List.size_toArray, sizeLine_eq]; lia) (by show (acc.toArray.push u).size ≤ sizeLine + 1; rw [Array.size_push, List.size_toArray, sizeLine_eq]; lia)
    · obtain ⟨p, hp, e⟩ := List.mem_map.mp hl
      exact List.mem_map.mpr ⟨p, g1 p hp, e⟩
    · exact MA1.keep fun b hb o ho => (Heap.get?_update_other _ _ (fun q : S = b => by
        subst q
        simp only [List.mem_cons, List.not_mem_nil, or_false] at hb
        rcases hb with h | h | h | h
        · exact hS.1 h
        · exact hS.2.1 h
        · exact hI.2.2.2 h.symm
        · exact hS.2.2 h)).trans ho
    · rw [List.take_succ_eq_append_getElem hlt2, List.map_append]
      exact (ha.mono g1).append (.one iu)

theorem mapCollect {nm : Str} {lv : Nat} {M TI I l fa : Addr} {vs : List Value} {ds : List Dat} {g : Dat → Dat} {f : Fm} {Q : List Value → Shared → Prop} {E : Value → Shared → Prop} (hf : ∀ d ∈ ds, FnJ nm lv [d] (.dat (g d))) (hfa : C.mg nm = some (.ref fa)) (hlv : lv + 1 ≤ C.lv) (N : Near C A) (hu : A.units + 7 ≤ C.A.units + 12)
    (hI : I ≠ M ∧ I ≠ TI ∧ I ≠ l) (hz : vs.length ≤ 1000000) (hX : Xi.map (·.1) = [M, TI, I]) (H : AtF C (Xi ++ X) Φ ρ f s) (hl : l ∈ Φ.map (·.1)) (hD : DatAll Φ vs ds) (MA : MapAt s.heap M TI I l (.ref fa) vs.toArray 0)
    (hQ : ∀ s' Φ' acc, (∀ p ∈ Φ, p ∈ Φ') → AtF C X Φ' ρ f s' → DatAll Φ' acc (ds.map g) → Q acc s') : wpAny (model P C.w) A (collect (.ref M)) Q E s := by
  have hlM := Heap.lt_size MA.m
  have hlT := Heap.lt_size MA.t
  have hlI : I < s.heap.objs.size := by obtain ⟨o, ho, _⟩ := MA.i; exact Heap.lt_size ho
  have hll : l < s.heap.objs.size := by obtain ⟨o, ho, _⟩ := MA.l; exact Heap.lt_size ho
  generalize hSe : s.heap.objs.size = S at hlM hlT hlI hll
  unfold collect
  refine wpAny_bind (wpAny_runValue (codeAny_builtin F.entry_proto_collect ?_))
  rw [Around.under_plainId F.plain_proto_collect _]
  show wpAny _ A.in1 (newList [] >>= fun l => again (.builtin "list.__iadd__" ⟨[l, .ref M], []⟩)) _ _ s
  refine wpAny_bind (wpAny_newObj_type ?_)
  rw [hSe]
  refine wpAny_pure ⟨plainId_quiet F.plain_list_iadd _, codeAny_builtin F.entry_list_iadd ?_⟩
  rw [Around.under_plainId F.plain_list_iadd _]
  have hS₁ : (s.heap.push { cls := .type "list", data := .seq ([] : List Value).toArray }).get? S = some (listOf #[] 0) := by rw [← hSe]; exact Heap.get?_push_size _ rfl
  obtain ⟨Xs, es, H1⟩ := AtM.xput H (h' := s.heap.push { cls := .type "list", data := .seq ([] : List Value).toArray }) (tk := s.toks) (fun b o q => Heap.get?_push_of_some _ q) (ax := [S]) (by simp) fun b hb => by
    rw [mem1 hb]; exact ⟨Heap.get?_none_of_le (Nat.le_of_eq hSe), _, hS₁, xob_seq rfl⟩
  have MA1 : MapAt (s.heap.push { cls := .type "list", data := .seq ([] : List Value).toArray }) M TI I l (.ref fa) vs.toArray 0 := MA.keep fun b zz1 o q => Heap.get?_push_of_some _ q
  show wpAny _ A.in1 (Builtin.List.listExtendWith (.ref S) (.ref M) (.ref S)) _ _ _
  unfold Builtin.List.listExtendWith
  have hT : Shared.TypeIs { s with heap := s.heap.push { cls := .type "list", data := .seq ([] : List Value).toArray } } (.ref M) "map" := ⟨_, MA1.m, rfl⟩
  refine wpAny_bind (wpAny_typeOf hT ?_)
  have h1 : Builtin.List.listSameRef (.ref S) (.ref M) = false := by simp only [Builtin.List.listSameRef, beq_eq_false_iff_ne]; exact Nat.ne_of_gt hlM
  have h2 : (Value.type "map" == Value.type "list") = false := by decide
  have h3 : (Value.type "map" == Value.type "tuple") = false := by decide
  simp only [h1, h2, h3, Bool.or_false, Bool.false_eq_true, if_false]
  refine wpAny_bind (wpAny_pyIter_slot hT slot_map_iter (wpAny_call_entry slot_map_iter hT entry_map_iter ?_ (args_map_iter_1 _)))
  show wpAny _ _ (ret (.ref M)) _ _ _
  refine wpAny_pure ⟨_, rfl, "map", _, hT, slot_map_next.lookup, ?_⟩
  refine wpAny_bind (wpAny_holding ?_)
  unfold Builtin.List.listLengthHint
  refine wpAny_bind (wpAny_specialOf hT map_no_len ?_)
  show wpAny _ A.in1 (specialOf (Value.ref M) (Str.ofString "__length_hint__") >>= _) _ _ _
  refine wpAny_bind (wpAny_specialOf hT map_no_hint ?_)
  refine wpAny_pure ?_
  show wpAny _ A.in1 (rule "list.extend.makes-room" >>= fun zz1 => Builtin.List.listTouch (.ref S) >>= fun zz1 =>
    again (.builtin "list.extend.loop" ⟨[.ref S, .ref M, .ref S], []⟩)) _ _ _
  refine wpAny_bind (wpAny_rule ?_)
  refine wpAny_bind ?_
  show wpAny _ A.in1 (updateSeq S (·.push .none) >>= fun zz1 => updateSeq S (·.pop)) _ _ _
  refine wpAny_bind (wpAny_updateSeq hS₁ rfl ?_)
  have hS₂ := get?_update_seq hS₁ (·.push Value.none)
  refine wpAny_updateSeq hS₂ rfl ?_
  have hS₃ := get?_update_seq hS₂ (·.pop)
  have oth : ∀ b o, b ≠ S → (s.heap.push { cls := .type "list", data := .seq ([] : List Value).toArray }).get? b = some o →
      (((s.heap.push { cls := .type "list", data := .seq ([] : List Value).toArray }).update S (Obj.mapSeq (·.push Value.none))).update S (Obj.mapSeq (·.pop))).get? b = some o :=
    fun b o hb e => (Heap.get?_update_other _ _ (Ne.symm hb)).trans ((Heap.get?_update_other _ _ (Ne.symm hb)).trans e)
  rw [← List.append_assoc] at H1
  obtain ⟨Xk, e2, H2⟩ := AtM.xturn H1 (wr := [S]) (fun b hb => by rw [mem1 hb, List.map_append, es]; simp) (h' := ((s.heap.push { cls := .type "list", data := .seq ([] : List Value).toArray }).update S (Obj.mapSeq (·.push Value.none))).update S (Obj.mapSeq (·.pop))) (tk := s.toks)
    (fun b o hb e => oth b o (fun q => hb (q ▸ .head _)) e) fun b hb => by rw [mem1 hb]; exact ⟨_, hS₃, xob_seq rfl⟩
  rw [List.map_append, es, hX] at e2
  obtain ⟨p0, p1, p2, p3, rfl, q0, q1, q2, q3⟩ := led4 e2
  have H3 := AtM.xperm H2 (X' := [p1, p2, p3, p0] ++ X) (List.Perm.append_right X (List.perm_append_comm (l₁ := [p1, p2, p3]) (l₂ := [p0])))
  have MA3 := MA1.keep fun b hb o ho => oth b o (fun q => by
      subst q
      simp only [List.mem_cons, List.not_mem_nil, or_false] at hb
      rcases hb with h | h | h | h
      · exact Nat.lt_irrefl _ (h ▸ hlM)
      · exact Nat.lt_irrefl _ (h ▸ hlT)
      · exact Nat.lt_irrefl _ (h ▸ hlI)
      · exact Nat.lt_irrefl _ (h ▸ hll)) ho
  generalize ((s.heap.push { cls := .type "list", data := .seq ([] : List Value).toArray }).update S (Obj.mapSeq (·.push Value.none))).update S (Obj.mapSeq (·.pop)) = h3 at H3 MA3 hS₃ ⊢
  refine wpAny_pure ⟨plainId_quiet F.plain_extend_loop _, mapLoop (A := A) hf hfa hlv N (by lia) ⟨hI.1, hI.2.1, hI.2.2, Nat.ne_of_lt hlI⟩ ⟨Nat.ne_of_gt hlM, Nat.ne_of_gt hlT, Nat.ne_of_gt hll⟩ hz (.ref S) vs.length 0 [p1, p2, p3, p0] Φ f _ [] _ (by lia) (Nat.zero_le _)
    (by simp [q0, q1, q2, q3]) H3 hl hD MA3 hS₃ .nil fun s' Φ' acc c' g3 H4 hS4 hD4 => ?_⟩
  show wpAny _ A (load S >>= _) _ _ s'
  refine wpAny_bind (wpAny_load hS4 ?_)
  exact wpAny_pure (hQ s' Φ' acc g3 H4 hD4)
end
end Mine
end
section
open PySem PySem.W PySem.Calls PyProof.Rows PyProof.V
namespace Mine

section
variable {prog : Program} {w : World} {A : Around} {E : Value → Shared → Prop} {s : Shared}

theorem code_tuple_map {M : Addr} {Rr : List Value → Shared → Prop} {Q₁ : Value → Shared → Prop} (hT : s.TypeIs (.ref M) "map")
    (hc : ∀ {Q : List Value → Shared → Prop} {E : Value → Shared → Prop}, (∀ s' acc, Rr acc s' → Q acc s') → wpAny (model prog w) A.in1 (collect (.ref M)) Q E s)
    (h : ∀ s' acc, Rr acc s' → acc.length ≤ sizeLine ∧ Q₁ (.ref s'.heap.objs.size) { s' with heap := s'.heap.push { cls := .type "tuple", data := .seq acc.toArray } }) :
    codeAny (model prog w) A (.call (.builtin "tuple.__new__") ⟨[.type "tuple", .ref M], []⟩) (wants Q₁ E) s := by
  refine codeAny_of_tree ?_
  show wpAny _ A.in1 (do checkBuiltinCall "tuple.__new__" ⟨[.type "tuple", .ref M], []⟩; again (.builtin "tuple.__new__" ⟨[.type "tuple", .ref M], []⟩)) _ _ s
  refine wpAny_bind (wpAny_of_eq (F.newCall_tuple_1 _) (wpAny_pure ⟨plainId_quiet F.plain_tuple_new _, codeAny_builtin F.entry_tuple_new ?_⟩))
  rw [Around.under_plainId F.plain_tuple_new _]
  have hsub := sub_tuple_self
  have hinit := init_tuple_lookup
  have hmh := madeHere_tuple
  wp_walk using wpAny_typeOf hT, hc
  intro s' acc hr
  show wpAny _ _ (Builtin.Tuple.tupleExact acc.toArray >>= fun v => ret v) _ _ _
  unfold Builtin.Tuple.tupleExact
  obtain ⟨hz, hq⟩ := h s' acc hr
  refine wpAny_bind (wpAny_newObj_type ?_ (by show acc.toArray.size ≤ sizeLine; simpa using hz))
  exact wpAny_pure hq

theorem call_tuple_map {M : Addr} {Rr : List Value → Shared → Prop} {Q : Value → Shared → Prop} (hT : s.TypeIs (.ref M) "map")
    (hc : ∀ {Q : List Value → Shared → Prop} {E : Value → Shared → Prop}, (∀ s' acc, Rr acc s' → Q acc s') → wpAny (model prog w) A.in1.in1 (collect (.ref M)) Q E s)
    (hQ : ∀ s' acc, Rr acc s' → acc.length ≤ sizeLine ∧ Q (.ref s'.heap.objs.size) { s' with heap := s'.heap.push { cls := .type "tuple", data := .seq acc.toArray } }) :
    wpAny (model prog w) A (call (.type "tuple") [.ref M]) Q E s := by
  refine callType_codes (Q₁ := fun obj s₁ => s₁.TypeIs obj "tuple" ∧ Q obj s₁) F.called_tuple (F.typeCall_tuple_1 _) F.entry_object_init
    (code_tuple_map hT hc fun s' acc hr => ⟨(hQ s' acc hr).1, ⟨_, Heap.get?_push_size _ rfl, rfl⟩, (hQ s' acc hr).2⟩) fun obj s₁ h₁ => ?_
  exact ⟨h₁.1, F.args_object_init_2 obj _, object_init_meets F.called_tuple.init.lookup F.called_tuple.made (by decide) prog w A.in1 _ s₁ ⟨h₁.1, rfl, h₁.2⟩⟩
end

section
variable {C : Cx} {X Xi Φ Φ' : Led} {ρ ρ' : Loc} {m : Str → Option Value} {ow : List OwnE} {s s' : Shared} {x y : Str} {pos sp ap cp c2 tp px py np n2 n3 : Pos} {e o tg : Expr} {A : Around}

theorem EvJ.tupMap {nm : Str} {lv : Nat} {ds : List Dat} {g : Dat → Dat} (hnm : nm ∈ fnNames) (hf : ∀ d ∈ ds, FnJ nm lv [d] (.dat (g d))) (hlv : lv + 1 ≤ C.lv) (hh : C.A.handled = none) (he : EvJ C ρ e (.dat (.list ds))) (hz : ds.length ≤ 1000)
    (hk : C.env.kindOf "tuple" = some .globalImplicit := by rfl) (hk2 : C.env.kindOf "map" = some .globalImplicit := by rfl) (hk3 : C.env.kindOf nm = some .globalImplicit := by rfl) (hd : (nm == ("__debug__" : Str)) = false := by decide)
    (hs : starEach [.Call (.Name "map" n2) [.Name nm n3, e] [] c2] C.env = [(false, eval (.Call (.Name "map" n2) [.Name nm n3, e] [] c2) C.env)] := by rfl)
    (hs2 : backTo c2 (starEach [.Name nm n3, e] C.env) = [(false, eval (.Name nm n3) C.env), (false, eval e C.env)] := by rfl) :
    EvJ C ρ (.Call (.Name "tuple" np) [.Call (.Name "map" n2) [.Name nm n3, e] [] c2] [] cp) (.dat (.tuple (ds.map g))) := fun X Φ f s H => by
  have ok := H.ok
  obtain ⟨a, o, pr, bd, sc, doc, pm, an, cd, ct, e0, hm, ho, hdt, hcr⟩ := ok.wd.fns nm hnm
  refine Call_Name1 (biGo H (by decide +kernel) (by rfl) ?_ hk) hs
  refine PySem.callWith_type1 ?_
  refine Call_Name hs2 (biGo H (by decide +kernel) (by rfl) ?_ hk2)
  refine PyProof.Rows.callWith_type rfl (Calls.evalArgs_plain (Calls.spliced_cons ?_))
  refine Name_function_global ok.kind hk3 (loadGlobal_global (env := C.env) (by rw [ok.glob]; exact ok.wd.g.keeps H.fr.keep) hm ?_) hd
  refine Calls.spliced_cons ?_
  refine wpAny_mono (he X Φ f s H) (fun v s1 ⟨Φ1, g1, H1, i1⟩ => Calls.spliced_nil ?_) fun zz1 zz2 f => f
  obtain ⟨l, vs, n, rfl, hml, hD⟩ := DatIn.listInv i1
  have hlen := hD.length
  have hol := H1.led _ hml
  have hL : s1.heap.IsList l vs.toArray := ⟨_, hol, rfl, _, rfl⟩
  have hll := Heap.lt_size hol
  refine call_map_2 hL ?_
  have z1 : (mapH1 s1.heap l).objs.size = s1.heap.objs.size + 1 := Heap.size_push ..
  have z2 : (mapH2 s1.heap l).objs.size = s1.heap.objs.size + 2 := by rw [Heap.size_push, z1]
  have gM : (mapH3 s1.heap (.ref a) l).get? (mapH2 s1.heap l).objs.size = some _ := Heap.get?_push_size _ rfl
  have gT : (mapH3 s1.heap (.ref a) l).get? (mapH1 s1.heap l).objs.size = some _ := Heap.get?_push_of_some _ (Heap.get?_push_size _ rfl)
  have gI : (mapH3 s1.heap (.ref a) l).get? s1.heap.objs.size = some _ := Heap.get?_push_of_some _ (Heap.get?_push_of_some _ (Heap.get?_push_size _ rfl))
  have gold : ∀ b o, s1.heap.get? b = some o → (mapH3 s1.heap (.ref a) l).get? b = some o := fun b o q => Heap.get?_push_of_some _ (Heap.get?_push_of_some _ (Heap.get?_push_of_some _ q))
  rw [z2, z1] at gM
  rw [z1] at gT
  generalize mapH3 s1.heap (.ref a) l = h3 at gM gT gI gold ⊢
  have hnone : ∀ b ∈ [s1.heap.objs.size + 2, s1.heap.objs.size + 1, s1.heap.objs.size], s1.heap.get? b = none := fun b hb => by
    refine Heap.get?_none_of_le ?_
    simp only [List.mem_cons, List.not_mem_nil, or_false] at hb
    rcases hb with q | q | q
    · exact q ▸ Nat.le_add_right _ _
    · exact q ▸ Nat.le_add_right _ _
    · exact Nat.le_of_eq q.symm
  obtain ⟨Xi, e', H2⟩ := AtM.xput H1 (h' := h3) (tk := s1.toks) gold (ax := [s1.heap.objs.size + 2, s1.heap.objs.size + 1, s1.heap.objs.size]) (by simp) fun b hb => ⟨hnone b hb, by
    simp only [List.mem_cons, List.not_mem_nil, or_false] at hb
    rcases hb with q | q | q
    · exact ⟨_, q ▸ gM, xob_fields rfl⟩
    · exact ⟨_, q ▸ gT, xob_seq rfl⟩
    · exact ⟨_, q ▸ gI, xob_fields rfl⟩⟩
  have MA : MapAt h3 (s1.heap.objs.size + 2) (s1.heap.objs.size + 1) s1.heap.objs.size l (.ref a) vs.toArray 0 := ⟨gM, gT, ⟨_, gI, rfl, rfl⟩, ⟨_, gold _ _ hol, rfl, _, rfl⟩⟩
  refine call_tuple_map (Rr := fun acc s' => ∃ Φ', (∀ p ∈ Φ1, p ∈ Φ') ∧ AtF C X Φ' ρ f s' ∧ DatAll Φ' acc (ds.map g)) ⟨_, gM, rfl⟩ (fun {Q E} hQ => ?_) fun s' acc ⟨Φ', g3, H3, D3⟩ => ⟨?_, ?_⟩
  · exact mapCollect (A := C.A.in1.in1) hf hm hlv ⟨rfl, hh, rfl, by show C.A.units + 1 + 1 ≤ _; lia⟩ (by show C.A.units + 1 + 1 + 7 ≤ _; lia) ⟨Nat.ne_of_lt (Nat.lt_succ_of_lt (Nat.lt_succ_self _)), Nat.ne_of_lt (Nat.lt_succ_self _), Nat.ne_of_gt hll⟩ (by rw [hlen]; lia) e' H2
      (List.mem_map.mpr ⟨_, hml, rfl⟩) hD MA fun s' Φ' acc g3 H3 D3 => hQ s' acc ⟨Φ', g3, H3, D3⟩
  · rw [D3.length, List.length_map, sizeLine_eq]; lia
  · exact ⟨_, fun p hp => .tail _ (g3 p (g1 p hp)), AtM.push H3 { cls := .type "tuple", data := .seq acc.toArray } s'.toks rfl, .tuple (.head _) (D3.mono fun p hp => .tail _ hp)⟩
end
end Mine
end
section
open PySem PySem.W PySem.Calls PyProof.Rows PyProof.V
namespace Mine

noncomputable def bes (f t : Bool) : Array (Int × Value) := ((if f then [(0, .bool false)] else []) ++ (if t then [(1, .bool true)] else []) : List (Int × Value)).toArray
noncomputable def btb (led f t : Bool) : SetTable := { mask := 7, place := ((if f then [0] else []) ++ (if t then [1] else []) : List Nat).toArray, dummies := #[], finger := 0, led := led, moves := 0, plain := true }
noncomputable def bset (led f t : Bool) (ep : Nat) : Obj := { cls := .type "set", dict := none, data := .set (bes f t) ep (btb led f t), slots := #[] }
noncomputable def bhash (b : Bool) : Int := if b then 1 else 0

section
variable {prog : Program} {w : World} {A : Around} {E : Value → Shared → Prop} {s : Shared}

theorem pyHash_bool {b : Bool} {Q : Int → Shared → Prop} (h : Q (bhash b) { s with toks := s.toks + 1 }) :
    wpAny (model prog w) A (pyHash (.bool b)) Q E s := by
  have hT : s.TypeIs (.bool b) "bool" := rfl
  unfold pyHash
  have hv : [Value.bool b].any Value.onHeap = false := rfl
  refine wpAny_bind ?_
  rw [cRoomFor, if_neg (by rw [hv]; exact Bool.false_ne_true)]; refine wpAny_pure ?_
  refine wpAny_bind (wpAny_specialOf hT F.slot_bool_hash.lookup ?_)
  show wpAny _ _ (if (some (Value.builtin "int.__hash__") == some Value.none) = true then _ else _) Q E s
  rw [if_neg (by rw [beq_builtin_none]; exact Bool.false_ne_true)]
  refine wpAny_bind (wpAny_specialOf hT F.slot_bool_hash.lookup ?_)
  show wpAny _ _ (callSpecialIfBoundUnlessNone? (.bool b) "__hash__" _ >>= _) Q E s
  have hb : wpAny (model prog w) A.in1 (Builtin.«int.__hash__» ⟨[.bool b], []⟩) (fun fin s' => ∃ v, fin = Fin.done (.ret v) ∧ (v = .int (bhash b) s.toks ∧ s' = { s with toks := s.toks + 1 })) E s := by
    cases b <;> exact wpAny_bind (m := mkInt _) (wpAny_mkInt (wpAny_pure ⟨_, rfl, rfl, rfl⟩))
  refine wpAny_bind (wpAny_callSpecialIfBoundUnlessNone?_slot hT F.slot_bool_hash
    (wpAny_call_entry F.slot_bool_hash hT entry_int_hash (wpAny_mono hb (fun fin s' ⟨v, e1, e2, e3⟩ => ⟨v, e1, ?_⟩) fun zz1 zz2 e => e) (args_int_hash _)))
  subst e2 e3
  cases b <;> exact wpAny_pure h

theorem fits_btb (led f t : Bool) : (btb led f t).fits (bes f t).size = true := by cases led <;> cases f <;> cases t <;> rfl

theorem new_bset {a : Addr} {led f t f' t' : Bool} {ep : Nat} (ho : s.heap.get? a = some (bset led f t ep)) :
    (s.heap.update a (Obj.putSet (bes f' t') (btb led f' t'))).get? a = some (bset led f' t' (ep + 1)) :=
  Heap.get?_update_self (Obj.putSet (bes f' t') (btb led f' t')) ho rfl

theorem eqBool_same {v : Value} {Q : Bool → Shared → Prop} (hv : (v == v) = true) (h : Q true s) : wpAny (model prog w) A (eqBool v v) Q E s := by
  unfold eqBool
  refine wpAny_holding ?_
  rw [if_pos hv]
  exact wpAny_bind (wpAny_rule (wpAny_pure h))

theorem scanFromB {a : Addr} {led f t b : Bool} {ep : Nat} (ho : s.heap.get? a = some (bset led f t ep)) : ∀ (l : List Bool) (i : Nat) {Q : ScanMet → Shared → Prop},
    Q (match l.findIdx? (· == b) with | some j => .found (i + j) | none => .absent) s →
    wpAny (model prog w) A (setScanFrom a (.bool b) (bhash b) true (l.map fun c => (bhash c, .bool c)) i) Q E s
  | [], i, Q, h => wpAny_pure h
  | c :: l, i, Q, h => by
    rw [List.map_cons]
    unfold setScanFrom
    by_cases hcb : c = b
    · subst hcb
      rw [if_pos (by simp)]
      refine wpAny_bind (wpAny_setEpoch_of ho rfl (fits_btb led f t) ?_)
      refine wpAny_bind (eqBool_same (by simp) ?_)
      simp only [Bool.and_self, if_true]
      refine wpAny_pure ?_
      simpa [List.findIdx?_cons] using h
    · rw [if_neg (by cases c <;> cases b <;> simp_all [bhash])]
      refine scanFromB ho l (i + 1) ?_
      rw [List.findIdx?_cons] at h
      simp only [show (c == b) = false from by simp [hcb], Bool.false_eq_true, if_false] at h
      cases q : List.findIdx? (· == b) l with
      | none => rw [q] at h; exact h
      | some j => rw [q] at h; simpa [Nat.add_assoc, Nat.add_comm 1 j] using h

noncomputable def bl (f t : Bool) : List Bool := (if f then [false] else []) ++ (if t then [true] else [])
theorem bes_bl (f t : Bool) : (bes f t).toList = (bl f t).map fun c => (bhash c, .bool c) := by cases f <;> cases t <;> rfl

theorem byScanB : ∀ f t b : Bool, byScan (.bool b) (bes f t) = true := by decide +kernel
theorem foundB : ∀ f t b : Bool, ((bl f t).findIdx? (· == b)).isSome = true → (f || !b) = f ∧ (t || b) = t := by decide +kernel
theorem tooFullB : ∀ led f t : Bool, (btb led f t).tooFull = false := by decide +kernel
theorem layB (led f t b : Bool) (hn : (bl f t).findIdx? (· == b) = none) : layNew (btb led f t) (bes f t) (bhash b) (.bool b) = (bes (f || !b) (t || b), btb led (f || !b) (t || b), false, false) := by
  cases led <;> cases f <;> cases t <;> cases b <;> first | (exact absurd hn (by decide)) | kernel_rfl

theorem setAdd_bool {a : Addr} {led f t b : Bool} {ep : Nat} {Q : Bool → Shared → Prop} (ho : s.heap.get? a = some (bset led f t ep))
    (h : ∀ h' ep' r, Heap.SameBut a s.heap h' → h'.get? a = some (bset led (f || !b) (t || b) ep') → Q r { s with heap := h', toks := s.toks + 1 }) :
    wpAny (model prog w) A (setAdd a (.bool b)) Q E s := by
  unfold setAdd
  refine wpAny_holding (wpAny_bind (pyHash_bool ?_))
  unfold setAddHashed setAddHashedIn
  refine wpAny_holding (wpAny_bind (wpAny_setState_of (s := { s with toks := s.toks + 1 }) ho rfl (fits_btb led f t) ?_))
  dsimp only
  rw [byScanB f t b]
  simp only [↓reduceIte]
  unfold setAddByScan
  refine wpAny_bind (wpAny_bind (wpAny_rule ?_))
  show wpAny _ _ (setScanFrom a (.bool b) (bhash b) true (bes f t).toList 0 >>= _) _ _ _
  rw [bes_bl]
  refine wpAny_bind (scanFromB (s := { s with toks := s.toks + 1 }) ho _ 0 ?_)
  cases q : (bl f t).findIdx? (· == b) with
  | some j =>
    refine wpAny_pure (wpAny_pure ?_)
    have e := foundB f t b (by rw [q]; rfl)
    exact h s.heap ep _ (Heap.SameBut.refl a s.heap) (by rw [e.1, e.2]; exact ho)
  | none =>
    dsimp only
    rw [layB led f t b q]
    dsimp only
    refine wpAny_bind (wpAny_pure ?_)
    refine wpAny_bind (wpAny_pure ?_)
    rw [if_pos rfl]
    refine wpAny_bind (wpAny_storeSet_of (s := { s with toks := s.toks + 1 }) ho rfl ?_ (by cases f <;> cases t <;> cases b <;> exact (by rw [sizeLine_eq]; decide)))
    rw [tooFullB]
    exact wpAny_pure (wpAny_pure (h _ _ _ (Heap.SameBut.update ..) (new_bset ho)))
end
end Mine
end
section
open PySem PySem.W PySem.Calls PyProof.Rows PyProof.V
namespace Mine

theorem owner_setit : Manifest.owners.lookup (String.ofList ['r', 'o', 't', 'a', 'r', 'e', 't', 'i', '_', 't', 'e', 's'].reverse) = some Manifest.sig_set_iterator := by kernel_rfl
theorem slot_setit_next : Slot "set_iterator" "__next__" "set_iterator.__next__" :=
  .of (owner := "set_iterator") (n := "__next__") (by rw [typeLookup_type, builtinLookup_eq_fast]; kernel_rfl) (by decide +kernel) (by decide +kernel) (by decide +kernel)
    (by first | exact .inl (by decide +kernel) | exact .inr (by decide +kernel)) (by rw [isSubtype_type]; kernel_rfl)
theorem entry_setit_next : entryFor table "set_iterator.__next__" = some Builtin.«set_iterator.__next__» := entryFor_of_tree (by kernel_rfl)
theorem args_setit_next (a : Value) : argsOk "set_iterator.__next__" ⟨[a], []⟩ := by
  unfold argsOk; rw [signature?_of (id := "set_iterator.__next__") (n := ['_', '_', 't', 'x', 'e', 'n', '_', '_']) (o := ['r', 'o', 't', 'a', 'r', 'e', 't', 'i', '_', 't', 'e', 's']) (by kernel_rfl) owner_setit]; kernel_rfl
theorem entry_set_iter : entryFor table "set.__iter__" = some Builtin.«frozenset.__iter__» :=
  entryFor_alias (id' := "frozenset.__iter__") (by rw [fastTable_eq_tree]; kernel_rfl) rfl (by decide +kernel) (by rw [fastTable_eq_tree]; kernel_rfl)

noncomputable abbrev txtOrd (w : World) : Bool := w.params.followText "set-order"
noncomputable abbrev setObj (es : Array (Int × Value)) (ep : Nat) (t : SetTable) : Obj := { cls := .type "set", dict := none, data := .set es ep t, slots := #[] }
noncomputable def slotAt (pl : Array Nat) (i : Nat) : Nat := if i = 0 then 0 else pl.getD (i - 1) 0 + 1
noncomputable def PlOk (pl : Array Nat) : Prop := ∀ i, i ≤ pl.size → SetTable.below pl (slotAt pl i) = i

inductive SetGo (w : World) (h : Heap) (D : Addr) (es : Array (Int × Value)) (ep : Nat) (t : SetTable) (vs : List Value) (i : Nat) : Value → Prop
  | text (ht : txtOrd w = true) (hv : vs = (pickOrder (w.params.setOrder D ep) es).toList.map (·.2)) : SetGo w h D es ep t vs i (rawInt 0)
  | drawn (T : Addr) (ps : List Nat) (ht : txtOrd w = false) (hT : h.get? T = some { cls := .type "tuple", data := .seq (ps.map fun (i : Nat) => rawInt i).toArray }) (hlt : ∀ p ∈ ps, p < es.size) (hv : vs = ps.map fun p => (es.getD p (0, .none)).2) : SetGo w h D es ep t vs i (.ref T)
  | places (ht : txtOrd w = false) (hl : t.led = true) (hd : (!t.plain && decide (es.size > 1)) = false) (hp : PlOk t.place) (hv : vs = es.toList.map (·.2)) : SetGo w h D es ep t vs i (rawInt (slotAt t.place i))

noncomputable abbrev itObj (first : Value) (i : Nat) (D : Addr) (n ep : Nat) : Obj := { cls := .type "set_iterator", data := .fields #[first, rawInt i, .ref D, rawInt n, rawInt ep] }
structure IterAt (w : World) (h : Heap) (I D : Addr) (es : Array (Int × Value)) (ep : Nat) (t : SetTable) (vs : List Value) (i : Nat) : Prop where
  so : h.get? D = some (setObj es ep t)
  ft : t.fits es.size = true
  ln : vs.length = es.size
  it : ∃ first, h.get? I = some (itObj first i D es.size ep) ∧ SetGo w h D es ep t vs i first

section
variable {prog : Program} {w : World} {A : Around} {E : Value → Shared → Prop} {s : Shared} {I D : Addr} {es : Array (Int × Value)} {ep : Nat} {t : SetTable} {vs : List Value} {i : Nat}

theorem byText {Q : Bool → Shared → Prop} (h : Q (txtOrd w) s) : wpAny (model prog w) A setsByText Q E s := by
  unfold setsByText
  exact wpAny_bind (wpAny_askSetting (wpAny_pure h))

theorem setNext_text {j : Nat} {Q : Option (Value × Nat) → Shared → Prop} (ht : txtOrd w = true) (so : s.heap.get? D = some (setObj es ep t)) (ft : t.fits es.size = true)
    (h : Q (((pickOrder (w.params.setOrder D ep) es)[i]?).map fun e => (e.2, j)) s) : wpAny (model prog w) A (setNext D j i ep) Q E s := by
  unfold setNext
  refine wpAny_bind (wpAny_setState_of so rfl ft ?_)
  refine wpAny_bind (byText ?_)
  rw [ht]
  simp only [if_true, bne_self_eq_false, Bool.false_eq_true, if_false]
  unfold setWalk
  refine wpAny_bind (wpAny_bind (wpAny_setState_of so rfl ft ?_))
  refine wpAny_bind (byText ?_)
  rw [ht]
  simp only [if_true]
  refine wpAny_bind (wpAny_askSetting (wpAny_pure ?_))
  exact wpAny_pure h

theorem setNext_place {Q : Option (Value × Nat) → Shared → Prop} (ht : txtOrd w = false) (hl : t.led = true) (hd : (!t.plain && decide (es.size > 1)) = false) (hp : PlOk t.place) (hi : i ≤ es.size) {g : Nat} (so : s.heap.get? D = some (setObj es ep t)) (ft : t.fits es.size = true)
    (h : Q ((es[i]?).map fun e => (e.2, slotAt t.place (i + 1))) s) : wpAny (model prog w) A (setNext D (slotAt t.place i) g ep) Q E s := by
  have hsz : t.place.size = es.size := by
    simp only [SetTable.fits, Bool.and_eq_true, beq_iff_eq] at ft
    exact ft.1
  unfold setNext
  refine wpAny_bind (wpAny_setState_of so rfl ft ?_)
  refine wpAny_bind (byText ?_)
  rw [ht]
  simp only [Bool.false_eq_true, if_false]
  show wpAny _ _ (if (!t.plain && decide (es.size > 1)) = true then _ else _) _ _ _
  rw [if_neg (by rw [hd]; exact Bool.false_ne_true)]
  have hm : ∀ {Q' : Unit → Shared → Prop}, Q' () s → wpAny (model prog w) A (if (!t.led && !es.isEmpty) = true then unsupported "set:maker-not-led" else pure ()) Q' E s := fun hq => by
    rw [hl]; exact wpAny_pure hq
  refine wpAny_bind (hm ?_)
  rw [hp i (by rw [hsz]; exact hi)]
  by_cases hlt : i < es.size
  · have hlt2 : i < t.place.size := by rw [hsz]; exact hlt
    rw [Array.getElem?_eq_getElem hlt, Array.getElem?_eq_getElem hlt2]
    rw [Array.getElem?_eq_getElem hlt] at h
    refine wpAny_pure ?_
    have e : slotAt t.place (i + 1) = t.place[i] + 1 := by
      unfold slotAt
      simp [Array.getD_eq_getD_getElem?, Array.getElem?_eq_getElem hlt2]
    rw [e] at h
    exact h
  · have hge : es.size ≤ i := Nat.le_of_not_lt hlt
    rw [Array.getElem?_eq_none hge] at h ⊢
    exact wpAny_pure h

theorem setit_item {v : Value} {Q : Value → Shared → Prop} (X : IterAt w s.heap I D es ep t vs i) (hv : vs[i]? = some v)
    (hQ : ∀ h', IterAt w h' I D es ep t vs (i + 1) → Heap.SameBut I s.heap h' → Q v { s with heap := h' }) :
    wpAny (model prog w) A (Builtin.«set_iterator.__next__» ⟨[.ref I], []⟩) (fun fin s' => ∃ v, fin = .done (.ret v) ∧ Q v s') E s := by
  obtain ⟨so, ft, ln, first, hI, go⟩ := X
  have hlt : i < vs.length := (List.getElem?_eq_some_iff.mp hv).1
  have hID : I ≠ D := fun e => by
    rw [e, so] at hI
    have h2 : some (Value.type "set") = some (Value.type "set_iterator") := congrArg (Option.map Obj.cls) hI
    simp at h2
  show wpAny _ _ (fieldsOf (.ref I) >>= _) _ _ _
  refine wpAny_bind (wpAny_fieldsOf hI rfl ?_)
  show wpAny _ _ (setEntries D >>= _) _ _ _
  refine wpAny_bind (wpAny_setEntries_of so rfl ft ?_)
  show wpAny _ _ (if ((es.size : Int) != (es.size : Int)) = true then _ else _) _ _ _
  rw [if_neg (by simp)]
  have fin : ∀ {f' : Value} {h1 h2 : Heap}, Heap.SameBut I s.heap h1 → h1.get? I = some (itObj f' i D es.size ep) → (∀ h', (∀ b o, b ≠ I → s.heap.get? b = some o → h'.get? b = some o) → SetGo w h' D es ep t vs (i + 1) f') →
      wpAny (model prog w) A (setField (.ref I) 1 (rawInt ((i : Int) + 1)) >>= fun zz1 => ret v) (fun fin s' => ∃ v, fin = .done (.ret v) ∧ Q v s') E { s with heap := h1 } := fun {f' h1 h2} k1 o1 g => by
    refine wpAny_bind (wpAny_setField_rec o1 (by simp) fun h' o' k' => ?_)
    have kk := k1.trans k'
    refine wpAny_pure ⟨_, rfl, hQ h' ⟨(kk.2 D (Ne.symm hID)).trans so, ft, ln, f', ?_, g h' fun b o hb e => (kk.2 b hb).trans e⟩ kk⟩
    rw [o']
    simp [itObj]
  cases go with
  | text ht hvs =>
    show wpAny _ _ (setNext D 0 i ep >>= _) _ _ _
    refine wpAny_bind (setNext_text ht so ft ?_)
    have hx : ∃ x, (pickOrder (w.params.setOrder D ep) es)[i]? = some x ∧ x.2 = v := by
      rw [hvs, List.getElem?_map] at hv
      obtain ⟨x, h1, h2⟩ := Option.map_eq_some_iff.mp hv
      exact ⟨x, by simpa using h1, h2⟩
    obtain ⟨x, hx, rfl⟩ := hx
    rw [hx]
    show wpAny _ _ (setField (.ref I) 0 (rawInt (0 : Nat)) >>= _) _ _ _
    refine wpAny_bind (wpAny_setField_rec hI (by simp) fun h1 o1 k1 => ?_)
    exact fin (h2 := h1) k1 o1 fun h' zz1 => .text ht hvs
  | drawn T ps ht hT hps hvs =>
    show wpAny _ _ (seqItems? (.ref T) >>= _) _ _ _
    refine wpAny_bind (wpAny_seqItems hT rfl ?_)
    have hlen : ps.length = vs.length := by rw [hvs, List.length_map]
    have hp : ps[i]? = some ps[i] := List.getElem?_eq_getElem (by omega)
    have hpl := hps ps[i] (List.getElem_mem _)
    simp only [Int.toNat_natCast, List.getElem?_toArray, List.getElem?_map, hp, Option.map_some]
    show wpAny _ _ (setNextDrawn D ps[i] ep >>= _) _ _ _
    unfold setNextDrawn
    refine wpAny_bind (wpAny_bind (wpAny_setState_of so rfl ft ?_))
    simp only [bne_self_eq_false, Bool.false_eq_true, if_false]
    obtain ⟨x, he⟩ : ∃ x, es[ps[i]]? = some x := ⟨_, Array.getElem?_eq_getElem hpl⟩
    rw [he]
    have e2 : x.2 = v := by
      rw [hvs, List.getElem?_map, hp, Option.map_some, Array.getD_eq_getD_getElem?, he] at hv
      exact Option.some.inj hv
    obtain ⟨x1, x2⟩ := x
    have e3 : x2 = v := e2
    subst e3
    refine wpAny_pure ?_
    have hTI : T ≠ I := fun e => by
      rw [e, hI] at hT
      have h2 : some (Value.type "set_iterator") = some (Value.type "tuple") := congrArg (Option.map Obj.cls) hT
      simp at h2
    exact fin (h1 := s.heap) (h2 := s.heap) (Heap.SameBut.refl I s.heap) hI fun h' k => .drawn T ps ht (k T _ hTI hT) hps hvs
  | places ht hl hd hp hvs =>
    show wpAny _ _ (setNext D (slotAt t.place i) i ep >>= _) _ _ _
    refine wpAny_bind (setNext_place ht hl hd hp (by omega) so ft ?_)
    have hx : ∃ x, es[i]? = some x ∧ x.2 = v := by
      rw [hvs, List.getElem?_map] at hv
      obtain ⟨x, h1, h2⟩ := Option.map_eq_some_iff.mp hv
      exact ⟨x, by simpa using h1, h2⟩
    obtain ⟨x, hx, rfl⟩ := hx
    rw [hx]
    show wpAny _ _ (setField (.ref I) 0 (rawInt (slotAt t.place (i + 1))) >>= _) _ _ _
    refine wpAny_bind (wpAny_setField_rec hI (by simp) fun h1 o1 k1 => ?_)
    exact fin (h2 := h1) k1 o1 fun h' zz1 => .places ht hl hd hp hvs

theorem setit_next {v : Value} {Q : Option Value → Shared → Prop} (X : IterAt w s.heap I D es ep t vs i) (hv : vs[i]? = some v)
    (hQ : ∀ h', IterAt w h' I D es ep t vs (i + 1) → Heap.SameBut I s.heap h' → Q (some v) { s with heap := h' }) :
    wpAny (model prog w) A (pyNext (.ref I)) Q E s := by
  have hT : s.TypeIs (.ref I) "set_iterator" := by
    obtain ⟨_, _, _, first, hI, _⟩ := X
    exact ⟨_, hI, rfl⟩
  unfold pyNext
  exact wpAny_bind (wpAny_attempt (wpAny_callSpecial?_slot (name := Str.ofString "__next__") hT slot_setit_next
    (wpAny_call_entry slot_setit_next hT entry_setit_next (setit_item X hv fun h' a b => wpAny_pure (hQ h' a b)) (args_setit_next _))))
end
end Mine
end
section
open PySem PySem.W PySem.Calls PyProof.Rows PyProof.V
namespace Mine

theorem erase_perm {α : Type} : ∀ (l : List α) (i : Nat) (h : i < l.length), (l[i] :: l.eraseIdx i).Perm l
  | a :: l, 0, h => .refl _
  | a :: l, i + 1, h => by
    have h2 : i < l.length := by simpa using h
    show (l[i] :: a :: l.eraseIdx i).Perm (a :: l)
    exact (List.Perm.swap _ _ _).trans (.cons _ (erase_perm l i h2))
theorem pick_go {α : Type} (next : Nat → Nat) : ∀ (n k : Nat) (left : List α) (out : Array α), left.length = n → (pickOrder.go next n k left out).toList.Perm (out.toList ++ left)
  | 0, k, left, out, h => by
    have : left = [] := List.length_eq_zero_iff.mp h
    subst this
    unfold pickOrder.go
    simp
  | n + 1, k, left, out, h => by
    unfold pickOrder.go
    have hlt : next k % left.length < left.length := Nat.mod_lt _ (by lia)
    rw [List.getElem?_eq_getElem hlt]
    dsimp only
    refine (pick_go next n (k + 1) _ _ (by rw [List.length_eraseIdx_of_lt hlt]; lia)).trans ?_
    rw [Array.toList_push, List.append_assoc]
    refine List.Perm.append_left _ ?_
    show ([left[next k % left.length]] ++ left.eraseIdx (next k % left.length)).Perm left
    exact erase_perm _ _ hlt
theorem pick_perm {α : Type} (next : Nat → Nat) (xs : Array α) : (pickOrder next xs).toList.Perm xs.toList := by
  unfold pickOrder
  simpa using pick_go next xs.size 0 xs.toList #[] (by simp)

section
variable {prog : Program} {w : World} {A : Around} {E : Value → Shared → Prop} {s : Shared} {I D : Addr} {es : Array (Int × Value)} {ep : Nat} {t : SetTable} {vs : List Value} {i : Nat}

theorem ifT {M : Model} {α : Type} {c : Prop} [Decidable c] {a b : Sem α} {Q : α → Shared → Prop} (hc : c) (h : wpAny M A a Q E s) : wpAny M A (if c then a else b) Q E s := by rw [if_pos hc]; exact h
theorem ifF {M : Model} {α : Type} {c : Prop} [Decidable c] {a b : Sem α} {Q : α → Shared → Prop} (hc : ¬ c) (h : wpAny M A b Q E s) : wpAny M A (if c then a else b) Q E s := by rw [if_neg hc]; exact h
theorem choose_any {M : Model} {src : Source} {n : Nat} {Q : Nat → Shared → Prop} (hn : n ≠ 0) (h : ∀ k d, k < n → Q k { s with drawn := d }) : wpAny M A (choose src n) Q E s := fun Γ p hΓ => by
  unfold choose
  rw [Sem.wp_choose]
  exact ⟨hn, h _ _ (Nat.mod_lt _ (Nat.pos_of_ne_zero hn))⟩

theorem draw_perm {α : Type} (n : Nat) : ∀ (xs : List α) (s : Shared) {Q : List α → Shared → Prop}, xs.length = n → (∀ ys d, ys.Perm xs → Q ys { s with drawn := d }) → wpAny (model prog w) A (drawOrder n xs) Q E s := by
  induction n with
  | zero =>
    intro xs s Q hl h
    have : xs = [] := List.length_eq_zero_iff.mp hl
    subst this
    exact wpAny_pure (h [] s.drawn (List.Perm.refl _))
  | succ n ih =>
    intro xs s Q hl h
    cases xs with
    | nil => cases hl
    | cons x xs =>
      unfold drawOrder
      refine wpAny_bind (choose_any (by simp) fun k d hk => ?_)
      rw [List.getElem?_eq_getElem hk]
      dsimp only
      refine wpAny_bind (ih _ _ (by rw [List.length_eraseIdx_of_lt hk]; simpa using hl) fun ys d' hp => wpAny_pure ?_)
      exact h _ d' ((List.Perm.cons _ hp).trans (erase_perm _ _ hk))

theorem raise_stop {Q : Fin → Shared → Prop} (hh : A.handled = none)
    (hE : ∀ h' e, (∀ b o, s.heap.get? b = some o → h'.get? b = some o) → (∃ o, h'.get? e = some o ∧ o.cls = .type "StopIteration") → E (.ref e) { s with heap := h' }) :
    wpAny (model prog w) A (newExc (.type "StopIteration") [] >>= fun e => raiseNew e) Q E s := by
  refine wpAny_bind ?_
  simp only [newExc, newTuple]
  refine wpAny_bind (wpAny_newObj_type ?_ (by size_fits))
  refine wpAny_bind (m := firstArgMember _ _) (wpAny_of_eq (a := Value.none) (by first | rfl | (simp only [firstArgMember]; rfl)) ?_)
  refine wpAny_newObj_type ?_ (by size_fits)
  simp only [raiseNew]
  refine wpAny_bind (wpAny_handled ?_)
  rw [hh]
  refine wpAny_bind (wpAny_pure (wpAny_throw ?_))
  exact hE _ _ (fun b o e => Heap.get?_push_of_some _ (Heap.get?_push_of_some _ e)) ⟨_, Heap.get?_push_size _ rfl, rfl⟩

theorem setit_end {Q : Option Value → Shared → Prop} (hh : A.handled = none) (X : IterAt w s.heap I D es ep t vs i) (hi : i = vs.length)
    (hQ : ∀ h', (∀ b o, b ≠ I → s.heap.get? b = some o → h'.get? b = some o) → Q none { s with heap := h' }) :
    wpAny (model prog w) A (pyNext (.ref I)) Q E s := by
  obtain ⟨so, ft, ln, first, hI, go⟩ := X
  have hT : s.TypeIs (.ref I) "set_iterator" := ⟨_, hI, rfl⟩
  unfold pyNext
  refine wpAny_bind (wpAny_attempt (wpAny_callSpecial?_slot (name := Str.ofString "__next__") hT slot_setit_next
    (wpAny_call_entry slot_setit_next hT entry_setit_next ?_ (args_setit_next _))))
  show wpAny _ _ (fieldsOf (.ref I) >>= _) _ _ _
  refine wpAny_bind (wpAny_fieldsOf hI rfl ?_)
  show wpAny _ _ (setEntries D >>= _) _ _ _
  refine wpAny_bind (wpAny_setEntries_of so rfl ft ?_)
  show wpAny _ _ (if ((es.size : Int) != (es.size : Int)) = true then _ else _) _ _ _
  rw [if_neg (by simp)]
  have fin : ∀ {f' : Value} {h1 : Heap} {R : Fin → Shared → Prop}, Heap.SameBut I s.heap h1 → h1.get? I = some (itObj f' i D es.size ep) →
      wpAny (model prog w) A.in1 (setField (.ref I) 2 .none >>= fun zz1 => newExc (.type "StopIteration") [] >>= fun e => raiseNew e) R (fun e s' => wpAny (model prog w) A (match (Except.error e : Except Value (Option Value)) with
        | .ok v => pure v
        | .error e => do if ← isInstance e (.type "StopIteration") then pure none else throw e) Q E s') { s with heap := h1 } := fun {f' h1 R} k1 o1 => by
    refine wpAny_bind (wpAny_setField_rec o1 (by simp) fun h' o' k' => ?_)
    refine raise_stop hh fun h2 e k2 ⟨o, ho, hc⟩ => ?_
    refine wpAny_bind (wpAny_isInstance (T := "StopIteration") (b := true) ⟨o, ho, hc⟩ isSubtype_stop ?_)
    exact wpAny_pure (hQ h2 fun b o hb e => k2 b o (((k1.trans k').2 b hb).trans e))
  cases go with
  | text ht hvs =>
    show wpAny _ _ (setNext D 0 i ep >>= _) _ _ _
    refine wpAny_bind (setNext_text ht so ft ?_)
    have hx : (pickOrder (w.params.setOrder D ep) es)[i]? = none := by
      rw [hvs, List.length_map, Array.length_toList] at hi
      rw [hi]; simp
    rw [hx]
    exact fin (Heap.SameBut.refl I s.heap) hI
  | drawn T ps ht hT' hps hvs =>
    show wpAny _ _ (seqItems? (.ref T) >>= _) _ _ _
    refine wpAny_bind (wpAny_seqItems hT' rfl ?_)
    have hlen : ps.length = vs.length := by rw [hvs, List.length_map]
    have hp : ps[i]? = none := List.getElem?_eq_none (by lia)
    simp only [Int.toNat_natCast, List.getElem?_toArray, List.getElem?_map, hp, Option.map_none]
    show wpAny _ _ (setField (.ref I) 0 (rawInt 0) >>= _) _ _ _
    refine wpAny_bind (wpAny_setField_rec hI (by simp) fun h1 o1 k1 => ?_)
    exact fin k1 o1
  | places ht hl hd hp hvs =>
    show wpAny _ _ (setNext D (slotAt t.place i) i ep >>= _) _ _ _
    refine wpAny_bind (setNext_place ht hl hd hp (by lia) so ft ?_)
    have hx : es[i]? = none := by
      rw [hvs, List.length_map, Array.length_toList] at hi
      rw [hi]; simp
    rw [hx]
    exact fin (Heap.SameBut.refl I s.heap) hI

noncomputable def SetOk (w : World) (es : Array (Int × Value)) (t : SetTable) : Prop :=
  txtOrd w = false → ((!t.plain && decide (es.size > 1)) = true) ∨ ((!t.plain && decide (es.size > 1)) = false ∧ t.led = true ∧ PlOk t.place)

theorem set_iter {Q : Value → Shared → Prop} (so : s.heap.get? D = some (setObj es ep t)) (ft : t.fits es.size = true) (ok : SetOk w es t) (hz : es.size ≤ 1000)
    (hQ : ∀ h' d I vs, IterAt w h' I D es ep t vs 0 → s.heap.get? I = none → vs.Perm (es.toList.map (·.2)) → (∀ b o, s.heap.get? b = some o → h'.get? b = some o) → Q (.ref I) { s with heap := h', drawn := d }) :
    wpAny (model prog w) A (pyIter (.ref D)) Q E s := by
  have hT : s.TypeIs (.ref D) "set" := ⟨_, so, rfl⟩
  refine wpAny_pyIter_slot hT F.slot_set_iter (wpAny_call_entry F.slot_set_iter hT entry_set_iter ?_ (F.args_set_iter_1 _))
  show wpAny _ _ (Builtin.Frozenset.sizeOf D >>= _) _ _ _
  refine wpAny_bind (wpAny_bind (wpAny_setEntries_of so rfl ft (wpAny_pure ?_)))
  refine wpAny_bind ?_
  unfold setDrawn
  refine wpAny_bind (wpAny_setState_of so rfl ft ?_)
  refine wpAny_bind (byText (wpAny_pure ?_))
  have fin : ∀ {first : Value} {h1 : Heap} {d : Drawn}, (∀ b o, s.heap.get? b = some o → h1.get? b = some o) → (∀ vs, (∀ h', (∀ b o, h1.get? b = some o → h'.get? b = some o) → SetGo w h' D es ep t vs 0 first) → vs.Perm (es.toList.map (·.2)) →
      wpAny (model prog w) A.in1 (do ret (← newFields "set_iterator" [first, rawInt 0, .ref D, rawInt es.size, rawInt (← setEpoch D)])) (fun fin s' => ∃ v, fin = .done (.ret v) ∧ ∃ T' r, s'.TypeIs v T' ∧ typeLookup (.type T') (Str.ofString "__next__") = pure (some r) ∧ Q v s') E { s with heap := h1, drawn := d }) := fun {first h1 d} k1 vs g hp => by
    refine wpAny_bind (wpAny_setEpoch_of (s := { s with heap := h1, drawn := d }) (k1 _ _ so) rfl ft ?_)
    refine wpAny_bind (wpAny_newObj_type ?_ (by size_fits))
    have hnew : (h1.push { cls := .type "set_iterator", data := .fields [first, rawInt 0, .ref D, rawInt es.size, rawInt ep].toArray }).get? h1.objs.size = some (itObj first 0 D es.size ep) := Heap.get?_push_size _ rfl
    refine wpAny_pure ⟨_, rfl, "set_iterator", _, ⟨_, hnew, rfl⟩, slot_setit_next.lookup, ?_⟩
    have kk : ∀ b o, h1.get? b = some o → (h1.push { cls := .type "set_iterator", data := .fields [first, rawInt 0, .ref D, rawInt es.size, rawInt ep].toArray }).get? b = some o := fun b o e => Heap.get?_push_of_some _ e
    refine hQ _ d _ vs ⟨kk _ _ (k1 _ _ so), ft, ?_, first, hnew, g _ kk⟩ ?_ hp fun b o e => kk b o (k1 b o e)
    · rw [hp.length_eq, List.length_map, Array.length_toList]
    · cases q : s.heap.get? h1.objs.size with
      | none => rfl
      | some o => exact absurd (Heap.lt_size (k1 _ _ q)) (Nat.lt_irrefl _)
  cases ht : txtOrd w with
  | true =>
    dsimp only
    rw [if_neg (by simp)]
    refine wpAny_bind (wpAny_pure ?_)
    exact fin (d := s.drawn) (fun zz1 zz2 e => e) _ (fun h' k => .text ht rfl) ((pick_perm _ _).map _)
  | false =>
    cases hd : (!t.plain && decide (es.size > 1)) with
    | true =>
      dsimp only
      refine ifT (show (!false && (!t.plain && decide (es.size > 1))) = true from by rw [hd]; rfl) ?_
      refine wpAny_bind (draw_perm es.size _ _ (by simp) fun ps d hp => ?_)
      have hpl := hp.length_eq
      rw [List.length_range] at hpl
      refine wpAny_bind (wpAny_newTuple ?_ (by rw [List.length_map, hpl, sizeLine_eq]; lia))
      refine fin (d := d) (fun b o e => Heap.get?_push_of_some _ e) (ps.map fun p => (es.getD p (0, .none)).2) (fun h' k => .drawn _ ps ht (k _ _ (Heap.get?_push_size _ rfl)) (fun p hpm => List.mem_range.mp (hp.mem_iff.mp hpm)) rfl) ?_
      refine (hp.map _).trans (List.Perm.of_eq ?_)
      refine List.ext_getElem (by simp) fun j h1 h2 => ?_
      simp only [List.getElem_map, List.getElem_range, Array.getElem_toList]
      have : j < es.size := by simpa using h1
      simp [Array.getD_eq_getD_getElem?, this]
    | false =>
      have ok2 := (ok ht).resolve_left (by rw [hd]; exact Bool.false_ne_true)
      dsimp only
      refine ifF (show ¬ (!false && (!t.plain && decide (es.size > 1))) = true from by rw [hd]; simp) ?_
      refine wpAny_bind (wpAny_pure ?_)
      exact fin (d := s.drawn) (fun zz1 zz2 e => e) _ (fun h' k => .places ht ok2.2.1 hd ok2.2.2 rfl) (.refl _)
end
end Mine
end
section
open PySem PySem.W PySem.Calls PyProof.Rows PyProof.V
namespace Mine

theorem compTurn_set (elt target iter : Expr) (scope : Scope) (pos : Pos) (it acc : Value) (env : Env) :
    compTurn (.SetComp elt [⟨target, iter, [], 0⟩] scope pos) 0 it acc env = (standAt iter.pos >>= fun zz1 => pyNext it >>= fun r => match r with
      | none => pure (.done .next)
      | some v => letOwnedTupleGo target it v >>= fun zz1 => assign target env v >>= fun zz1 =>
        (eval elt env >>= fun x => standAt elt.pos >>= fun zz1 => call (.builtin "set.add") [acc, x] >>= fun zz1 => pure ()) >>= fun zz1 =>
          again (.compLoop (.SetComp elt [⟨target, iter, [], 0⟩] scope pos) 0 it acc env)) := by rfl

section
variable {prog : Program} {w : World} {A : Around} {E : Value → Shared → Prop} {R : Result → Shared → Prop} {s : Shared}
theorem codeAny_compLoop_set {elt target iter : Expr} {scope : Scope} {pos : Pos} {it acc : Value} {env : Env} (I : Nat → Shared → Prop)
    (turn : ∀ n s, I n s → wpAny (model prog w) A (pyNext it) (fun r s₁ => match r with
      | none => R (.ok .next) s₁
      | some v => wpAny (model prog w) A (assign target env v) (fun zz1 s₂ =>
          wpAny (model prog w) A (eval elt env) (fun x s₄ =>
              wpAny (model prog w) A (call (.builtin "set.add") [acc, x]) (fun zz1 s₅ => ∃ m, m < n ∧ I m s₅) (notedBy (model prog w) A env fun e s' => R (.error e) s') s₄) (notedBy (model prog w) A env fun e s' => R (.error e) s') s₂) (notedBy (model prog w) A env fun e s' => R (.error e) s') s₁) (notedBy (model prog w) A env fun e s' => R (.error e) s') s)
    (n : Nat) (h : I n s) (ht : ∀ v, letOwnedTupleGo target it v = pure () := by intro a; rfl) :
    codeAny (model prog w) A (.compLoop (.SetComp elt [⟨target, iter, [], 0⟩] scope pos) 0 it acc env) R s := by
  refine codeAny_loop rfl I (fun n s hI => ?_) n h
  show wpAny _ A ((compTurn (.SetComp elt [⟨target, iter, [], 0⟩] scope pos) 0 it acc env).onRaise (fun x => do noteFrame x env; theTreesLotGoes x)) _ _ s
  refine wpAny_noted ?_
  rw [compTurn_set]
  refine wpAny_bind (wpAny_standAt (wpAny_bind (wpAny_mono (turn n s hI) (fun r s₁ h₁ => ?_) fun zz1 zz2 h' => h')))
  cases r with
  | none => exact wpAny_pure h₁
  | some v =>
    refine wpAny_bind (wpAny_of_eq (ht v) ?_)
    refine wpAny_bind (wpAny_mono h₁ (fun zz1 s₂ h₂ => wpAny_bind (wpAny_bind (wpAny_mono h₂ (fun x s₄ h₄ => ?_) fun zz1 zz2 h' => h'))) fun zz1 zz2 h' => h')
    exact wpAny_bind (wpAny_standAt (wpAny_bind (wpAny_mono h₄ (fun zz1 s₅ h₅ => wpAny_pure (wpAny_pure ⟨rfl, h₅⟩)) fun zz1 zz2 h' => h')))
theorem codeAny_compStart_set {elt target iter ifs rest scope pos it acc env}
    (h0 : codeAny (model prog w) A (.compLoop (.SetComp elt (⟨target, iter, ifs, 0⟩ :: rest) scope pos) 0 it acc env) R s)
    (h : wpAny (model prog w) A (pyIter it) (fun it' s' => codeAny (model prog w) A (.compLoop (.SetComp elt (⟨target, iter, ifs, 0⟩ :: rest) scope pos) 0 it' acc env) R s')
      (notedBy (model prog w) A env fun x s' => R (.error x) s') s) :
    codeAny (model prog w) A (.compStart (.SetComp elt (⟨target, iter, ifs, 0⟩ :: rest) scope pos) 0 it acc env) R s := by
  refine codeAny_of_tree ?_
  show wpAny _ _ ((compStart (.SetComp elt (⟨target, iter, ifs, 0⟩ :: rest) scope pos) 0 it acc env).onRaise (fun x => do noteFrame x env; standAt theWindowsPlace)) _ _ s
  refine wpAny_notedAt ?_
  unfold compStart
  show wpAny _ _ (ask >>= _) _ _ s
  refine wpAny_bind (wpAny_askSetting (wpAny_ite ?_))
  split
  · first
      | exact wpAny_bind (wpAny_pure (wpAny_pure (And.intro rfl h0)))
      | exact wpAny_pure (And.intro rfl h0)
  · first
      | exact wpAny_bind (wpAny_rule (wpAny_bind (wpAny_standAt (wpAny_bind (wpAny_mono h (fun it' s' h' => wpAny_pure (And.intro rfl h')) fun zz1 zz2 x => x)))))
      | (refine wpAny_bind (wpAny_rule ?_); show wpAny _ _ (standAt iter.pos >>= _) _ _ s; exact wpAny_bind (wpAny_standAt (wpAny_bind (wpAny_mono h (fun it' s' h' => wpAny_pure (And.intro rfl h')) fun zz1 zz2 x => x))))

theorem newSet_any {Q : Value → Shared → Prop} (h : Q (.ref s.heap.objs.size) { s with heap := s.heap.push (setObj #[] 0 (.fresh 0 0 (!txtOrd w))) }) : wpAny (model prog w) A (newSet (.type "set")) Q E s := by
  unfold newSet
  refine wpAny_bind (byText ?_)
  dsimp only
  simp only [newObj]
  exact wpAny_bind (wpAny_alloc (wpAny_pure h))
theorem fresh_bset (led : Bool) : setObj #[] 0 (.fresh 0 0 led) = bset led false false 0 := rfl
theorem bset_typeIs {a : Addr} {led f t : Bool} {ep : Nat} (ho : s.heap.get? a = some (bset led f t ep)) : s.TypeIs (.ref a) "set" := ⟨_, ho, rfl⟩
theorem call_add_bool {a : Addr} {led f t b : Bool} {ep : Nat} {Q : Value → Shared → Prop} (ho : s.heap.get? a = some (bset led f t ep))
    (h : ∀ h' ep', Heap.SameBut a s.heap h' → h'.get? a = some (bset led (f || !b) (t || b) ep') → Q .none { s with heap := h', toks := s.toks + 1 }) :
    wpAny (model prog w) A (call (.builtin "set.add") [.ref a, .bool b]) Q E s := by
  refine wpAny_call_entry F.slot_set_add (bset_typeIs ho) F.entry_set_add ?_ (F.args_set_add_2 _ _)
  unfold Builtin.«set.add» Builtin.Frozenset.oneOther
  simp only [List.isEmpty_nil, bind_assoc]
  unfold Builtin.Frozenset.addrOf
  refine wpAny_bind (wpAny_pure ?_)
  try dsimp only
  refine wpAny_bind (wpAny_pure ?_)
  try dsimp only
  refine wpAny_bind (setAdd_bool ho fun h' ep' r hs ho' => ?_)
  show wpAny _ _ (ret Value.none) _ _ _
  exact wpAny_pure ⟨_, rfl, h h' ep' hs ho'⟩
end

section
variable {C : Cx} {X Xi Φ Φ' : Led} {ρ ρ' : Loc} {m : Str → Option Value} {ow : List OwnE} {s s' : Shared} {x y : Str} {pos sp ap cp tp px py np : Pos} {e o tg : Expr} {scope : Scope} {cl : List (Str × Addr)}

theorem xob_bset {led f t : Bool} {ep : Nat} : Xob (bset led f t ep) := ⟨fun zz1 zz2 e => (by cases e), fun zz1 e => (by cases e)⟩

inductive SetI {α : Type} (C : Cx) (ρ : Loc) (D : Addr) (Φ1 : Led) (ax : List Addr) (St : Nat → Heap → Prop) (xs : List α) (r : α → Bool) (t : Bool) (n : Nat) (s' : Shared) : Prop
  | mk (i : Nat) (Φ' Xj Xb : Led) (f' : Fm) (c : Nat) (e : n = xs.length - i) (hi : i ≤ xs.length) (g : ∀ p ∈ Φ1, p ∈ Φ') (hX : Xj.map (·.1) = ax) (hXb : Xb.map (·.1) = [D]) (H : AtF C (Xj ++ Xb) Φ' ρ f' s')
    (hD : s'.heap.get? D = some (bset t ((xs.take i).any fun a => !r a) ((xs.take i).any r) c)) (st : St i s'.heap) : SetI C ρ D Φ1 ax St xs r t n s'
theorem setCore {α : Type} {xs : List α} {g : α → Dat} {r : α → Bool} {elt iter : Expr} (hit : ItJ C ρ (.Name x px) iter ((xs.map g).map fun d ρ => (x, .dat d) :: ρ)) (hh : C.A.handled = none) (K : Caught C scope cl ρ ρ')
    (hx : scope.names.lookup x = some .local)
    (body : ∀ q : CompP, ∀ a ∈ xs, EvJ (compC C scope cl q) ((x, .dat (g a)) :: ρ') elt (.dat (.bool (r a))))
    {Q : Value → Shared → Prop} {E : Value → Shared → Prop} {f : Fm} (H : AtF C X Φ ρ f s)
    (hQ : ∀ D s' Φ' ep, (∀ p ∈ Φ, p ∈ Φ') → AtF C X Φ' ρ f s' → s'.heap.get? D = some (bset (!txtOrd C.w) (xs.any fun a => !r a) (xs.any r) ep) → Q (.ref D) s')
    (hs : ∀ x, foldedSetIterable iter C.env x = pure x := by intro a; rfl) :
    wpAny (model P C.w) C.A (comprehension (.SetComp elt [⟨.Name x px, iter, [], 0⟩] scope pos) scope C.env cp (newSet (.type "set")) false (eval iter C.env)) Q E s := by
  refine wpAny_comprehension_free rfl hs K.clos K.kind K.names (ff (wpAny_mono (hit X Φ f s H) (fun xv s1 h1 => ff (wpAny_mono h1 (fun it s2 h2 => ?_) fun zz1 zz2 e => e)) fun zz1 zz2 e => e))
  obtain ⟨I, fp, wr, ax, St, Φ1, Xi, rfl, g1, hXi, H2, st0, W⟩ := h2
  obtain ⟨hm, hm1, hm2⟩ := minus s2.heap ax
  have HM := AtM.xloose H2 (wr := ax) (fun b hb => by rw [hXi]; exact hb) (h' := hm) (tk := s2.toks) fun b o hb e => (hm2 b hb).trans e
  have hmk : ∀ {b o}, hm.get? b = some o → s2.heap.get? b = some o := fun {b o} e => by
    by_cases hb : b ∈ ax
    · rw [hm1 b hb] at e; cases e
    · rw [← hm2 b hb]; exact e
  have hmn : ∀ {b}, s2.heap.get? b = none → hm.get? b = none := fun {b} e => by
    cases q : hm.get? b with
    | none => rfl
    | some o => rw [hmk q] at e; cases e
  refine newSet_any (wpAny_newFunctionEnv K.cell (by intro y hy; simp at hy) (fun h₁ hns₁ hsb₁ => ?_) K.kind)
  dsimp only at hns₁ hsb₁ ⊢
  have hD0 : s2.heap.get? s2.heap.objs.size = none := Heap.get?_none_of_le (Nat.le_refl _)
  have hsz : (s2.heap.push (setObj #[] 0 (.fresh 0 0 (!txtOrd C.w)))).objs.size = s2.heap.objs.size + 1 := Heap.size_push ..
  rw [hsz] at hns₁ hsb₁ ⊢
  have hL0 : s2.heap.get? (s2.heap.objs.size + 1) = none := Heap.get?_none_of_le (Nat.le_succ _)
  have hDL : s2.heap.objs.size ≠ s2.heap.objs.size + 1 := Nat.ne_of_lt (Nat.lt_succ_self _)
  have old : ∀ b o, s2.heap.get? b = some o → h₁.get? b = some o := fun b o e =>
    hsb₁.extBut b o (fun q => by rw [q, hL0] at e; cases e) (Heap.get?_push_of_some _ (Heap.get?_push_of_some _ e))
  have hDh : h₁.get? s2.heap.objs.size = some (bset (!txtOrd C.w) false false 0) := hsb₁.extBut _ _ hDL (Heap.get?_push_of_some _ (Heap.get?_push_size _ rfl))
  have B := compAt (tk := s2.toks) H2 K (by rw [hXi]; exact hm1) (by rw [hXi]; exact hm2) xob_bset old hD0 hL0 hDL (Nat.le_succ _) hDh (by simpa using hns₁)
  have stB : St 0 h₁ := W.frame _ _ _ st0 fun b zz1 o e => old b o e
  generalize hCq : compC C scope cl ⟨hm, Φ1, s2.heap.objs.size + 1⟩ = C' at B
  have hA' : C'.A = C.A := by rw [← hCq]; rfl
  have hw' : C'.w = C.w := by rw [← hCq]; rfl
  have hkx : ∀ ns, tgNames (.Name x px) = some ns → ∀ n ∈ ns, Kept C' n := fun ns e n hn => by
    cases e
    rw [List.mem_singleton.mp hn, ← hCq]
    exact .loc (lookup_relabel_local hx)
  have henv : C'.env = compEnvC scope cl (s2.heap.objs.size + 1) C.env := by rw [← hCq]; rfl
  have loop : codeAny (model P C.w) C.A (.compLoop (.SetComp elt [⟨.Name x px, iter, [], 0⟩] scope pos) 0 (.ref I) (.ref s2.heap.objs.size) (compEnvC scope cl (s2.heap.objs.size + 1) C.env))
      (compPost (model P C.w) C.A E none Q (.ref s2.heap.objs.size) (s2.heap.objs.size + 1)) { s2 with heap := h₁, toks := s2.toks + ([] : List (Str × Value)).length } := by
    refine codeAny_compLoop_set (SetI C' ρ' s2.heap.objs.size Φ1 ax St xs r (!txtOrd C.w)) ?_ xs.length
      ⟨0, Φ1, Xi, [(s2.heap.objs.size, bset (!txtOrd C.w) false false 0)], _, 0, rfl, Nat.zero_le _, fun zz1 h => h, hXi, rfl, B, hDh, stB⟩
    have hle : ∀ {d : Dat}, ρ'.Le ((x, .dat d) :: ρ') := fun {d} y av e => by
      have h3 := (K.got y av e).2.2.1
      have hyx : y ≠ x := fun q => by
        rw [q, show (relabel scope C.env).names.lookup x = some .local from lookup_relabel_local hx] at h3
        cases h3
      rw [List.lookup_cons, show (y == x) = false from beq_eq_false_iff_ne.mpr hyx]
      exact e
    rintro n s3 ⟨i, Φ2, Xj, Xb, f', c, rfl, hi, g2, hXj, hXb, H3, hD3, st⟩
    rcases Nat.lt_or_eq_of_le hi with hlt | hlt
    · have hg : ((xs.map g).map fun d (ρ : Loc) => ((x, AV.dat d) :: ρ : Loc))[i]? = some fun ρ => (x, .dat (g xs[i])) :: ρ := by simp [hlt]
      have T := W.turn C' Xb Xj Φ2 ρ' f' s3 i _ (notedBy (model P C.w) C.A (compEnvC scope cl (s2.heap.objs.size + 1) C.env) fun e s' => compPost (model P C.w) C.A E none Q (.ref s2.heap.objs.size) (s2.heap.objs.size + 1) (.error e) s') hw' (by rw [hA']; exact hh) hkx g2 hXj H3 st hg
      rw [hA', henv] at T
      refine wpAny_mono T (fun r' s4 ⟨v, hv, h4⟩ => ?_) fun zz1 zz2 h => h
      subst hv
      refine wpAny_mono (strip h4) (fun zz1 s5 ⟨Xk, hXk, ⟨f5, H5⟩, st5⟩ => ?_) fun zz1 zz2 h => h
      have he := body ⟨hm, Φ1, s2.heap.objs.size + 1⟩ xs[i] (List.getElem_mem hlt)
      rw [hCq] at he
      have T3 := he _ _ _ _ H5
      rw [hA', henv, hw'] at T3
      refine ff (wpAny_mono T3 (fun v1 s7 ⟨Φ7, g7, H7, i7⟩ => ?_) fun zz1 zz2 f => f)
      cases i7
      have htk : (xs.take (i + 1)) = xs.take i ++ [xs[i]] := List.take_succ_eq_append_getElem hlt
      have hXbm : s2.heap.objs.size ∈ Xb.map (·.1) := by rw [hXb]; exact .head _
      have hD7 : s7.heap.get? s2.heap.objs.size = some (bset (!txtOrd C.w) ((xs.take i).any fun a => !r a) ((xs.take i).any r) c) := by
        obtain ⟨p, hp, e⟩ := List.mem_map.mp hXbm
        have h1 := H3.xtr p (List.mem_append_right _ hp)
        have h2 := H7.xtr p (List.mem_append_right _ hp)
        rw [e] at h1 h2
        exact h2.trans (h1.symm.trans hD3)
      refine ff (call_add_bool hD7 fun h8 c8 k8 hD8 => ?_)
      obtain ⟨Xm, e7, H8⟩ := AtM.xturn (X := []) (Xi := Xk ++ Xb) (by rw [List.append_nil]; exact H7) (wr := [s2.heap.objs.size]) (fun b hb => by rw [mem1 hb, List.map_append]; exact List.mem_append_right _ hXbm) (h' := h8) (tk := s7.toks + 1) (fun b o hb e => (k8.2 b fun q => hb (q ▸ .head _)).trans e)
        fun b hb => by rw [mem1 hb]; exact ⟨_, hD8, xob_bset⟩
      rw [List.append_nil] at H8
      rw [List.map_append] at e7
      obtain ⟨Xn, Xo, rfl, e8, e9⟩ := List.map_eq_append_iff.mp e7
      refine ⟨xs.length - (i + 1), by omega, i + 1, Φ7, Xn, Xo, f5, c8, rfl, hlt, fun p hp => g7 p (g2 p hp), e8.trans hXk, e9.trans hXb, AtM.le H8 hle, ?_, ?_⟩
      · rw [htk, List.any_append, List.any_append, List.any_cons, List.any_nil, Bool.or_false, List.any_cons, List.any_nil, Bool.or_false]
        exact hD8
      · have st7 := W.keep H5 hXk g2 st5 H7 g7
        refine W.frame _ _ _ st7 fun b hb o ho => ?_
        refine (k8.2 b fun q => ?_).trans ho
        have hbx : ∀ {q : Addr × Obj}, q ∈ Xk → q.1 ≠ s2.heap.objs.size := fun {q} hq e => by
          have h1 := H7.xnd
          rw [List.map_append] at h1
          exact (List.nodup_append.mp h1).2.2 q.1 (List.mem_map.mpr ⟨q, hq, rfl⟩) s2.heap.objs.size hXbm e
        rcases W.cov b hb with hc | hc
        · rw [← hXk] at hc
          obtain ⟨q', hq', e'⟩ := List.mem_map.mp hc
          exact hbx hq' (e'.trans q)
        · obtain ⟨q', hq', e'⟩ := List.mem_map.mp hc
          obtain ⟨p, hp, e2⟩ := List.mem_map.mp hXbm
          exact H7.xled p (List.mem_append_right _ hp) q' (g7 _ (g2 _ hq')) (e'.trans (q.trans e2.symm))
    · subst hlt
      have hlen : ((xs.map g).map fun d (ρ : Loc) => ((x, AV.dat d) :: ρ : Loc)).length = xs.length := by simp
      have T := W.stop C' Xb Xj Φ2 ρ' f' s3 (notedBy (model P C.w) C.A (compEnvC scope cl (s2.heap.objs.size + 1) C.env) fun e s' => compPost (model P C.w) C.A E none Q (.ref s2.heap.objs.size) (s2.heap.objs.size + 1) (.error e) s') hw' (by rw [hA']; exact hh) g2 hXj H3 (by rw [hlen]; exact st)
      rw [hA'] at T
      refine wpAny_mono T (fun r s4 ⟨hr, H4⟩ => ?_) fun zz1 zz2 h => h
      subst hr
      have hloc : C'.env.locals = s2.heap.objs.size + 1 := by rw [henv]; rfl
      have hh0 : C'.h₀ = hm := by rw [← hCq]; rfl
      have hp0 : C'.Φ₀ = Φ1 := by rw [← hCq]; rfl
      have hfs : C'.fs = frs C.stk := by rw [← hCq]; rfl
      have hD4 : s4.heap.get? s2.heap.objs.size = some (bset (!txtOrd C.w) (xs.any fun a => !r a) (xs.any r) c) := by
        obtain ⟨p, hp, e⟩ := List.mem_map.mp (show s2.heap.objs.size ∈ Xb.map (·.1) by rw [hXb]; exact .head _)
        have h1 := H3.xtr p (List.mem_append_right _ hp)
        have h2 := H4.xtr p hp
        rw [e] at h1 h2
        rw [List.take_length] at hD3
        exact h2.trans (h1.symm.trans hD3)
      have U : Upto (frs C.stk) hm s4.heap := by
        refine ⟨fun b o e nb => ?_, fun b o e => ?_⟩
        · exact H4.keep.off b o (by rw [hh0]; exact e) (by rw [hfs]; exact nb)
        · exact H4.keep.on b o (by rw [hh0]; exact e)
      have ex2 : ∀ {b o}, s2.heap.get? b = some o → b ≠ s2.heap.objs.size + 1 := fun {b o} e q => by rw [q, hL0] at e; cases e
      have H5 := AtM.upto HM (s' := s4) U (fun p hp => g2 p hp) (fun p hp => by
        rcases H4.src p hp with q | q
        · exact .inl (hp0 ▸ q)
        · exact .inr ⟨H4.led p hp, by rw [hh0] at q; exact q, H4.seq p hp⟩) (by
        have : C'.gens = C.gens := by rw [← hCq]; rfl
        exact H4.gens.trans (this.trans H2.gens.symm)) (by
        have : C'.os = C.os := by rw [← hCq]; rfl
        exact H4.os.trans (this.trans H2.os.symm))
      have I5 : Idle C X Φ2 f.ow (s2.heap.objs.size + 1) := ⟨fun hmm => by
          obtain ⟨o, ho⟩ := H2.some_of_mut hmm
          exact ex2 ho rfl, fun p hp e => H4.ledm p hp (by rw [e, ← hloc]; exact .head _), fun p hp => ex2 (H2.xtr p (List.mem_append_right _ hp)), by
          cases q : C.h₀.get? (s2.heap.objs.size + 1) with
          | none => rfl
          | some o =>
            obtain ⟨sl, e'⟩ := H2.keep.on _ _ q
            exact absurd rfl (ex2 e'), fun hmm => by
          obtain ⟨_, o, _, _, ho, _⟩ := H2.stk.at hmm
          exact ex2 ho rfl⟩
      have hn4 := hloc ▸ H4.fr.ns
      exact ⟨f'.m, hn4, fun h' hs' => hQ _ _ Φ2 c (fun p hp => g2 p (g1 p hp)) (AtM.drift (tk := s4.toks) H5 I5 hn4 hs') ((hs'.2 _ hDL).trans hD4)⟩
  exact codeAny_compStart_set loop (W.self _ 0 _ _ _ stB loop)
end
end Mine
end
section
open PySem PySem.W PySem.Calls PyProof.Rows PyProof.V
namespace Mine

theorem plOkB : ∀ led f t : Bool, PlOk (btb led f t).place := by
  intro led f t i hi
  cases f <;> cases t
  · have : i = 0 := by simpa [btb] using hi
    subst this; cases led <;> decide +kernel
  · have : i ≤ 1 := by simpa [btb] using hi
    rcases i with _ | _ | i
    · cases led <;> decide +kernel
    · cases led <;> decide +kernel
    · lia
  · have : i ≤ 1 := by simpa [btb] using hi
    rcases i with _ | _ | i
    · cases led <;> decide +kernel
    · cases led <;> decide +kernel
    · lia
  · have : i ≤ 2 := by simpa [btb] using hi
    rcases i with _ | _ | _ | i
    · cases led <;> decide +kernel
    · cases led <;> decide +kernel
    · cases led <;> decide +kernel
    · lia
theorem setOkB {w : World} (f t : Bool) : SetOk w (bes f t) (btb (!txtOrd w) f t) := fun ht => .inr ⟨by simp [btb], by rw [ht]; rfl, plOkB _ f t⟩

section
variable {prog : Program} {w : World} {A : Around} {E : Value → Shared → Prop} {s : Shared} {D : Addr}

theorem unpackSetOne {b : Bool} {ep : Nat} {Q : List Value → Shared → Prop} (hh : A.handled = none) (so : s.heap.get? D = some (bset (!txtOrd w) (!b) b ep))
    (hQ : ∀ h' d, (∀ b o, s.heap.get? b = some o → h'.get? b = some o) → Q [.bool b] { s with heap := h', drawn := d }) : wpAny (model prog w) A (unpackItems (.ref D) 1 none) Q E s := by
  have hT : s.TypeIs (.ref D) "set" := ⟨_, so, rfl⟩
  unfold unpackItems
  refine wpAny_bind ?_
  unfold notIterableAtAll
  refine wpAny_bind (wpAny_specialOf hT F.slot_set_iter.lookup ?_)
  refine wpAny_pure ?_
  simp only [Bool.false_eq_true, if_false]
  refine wpAny_bind (wpAny_holding (set_iter so (fits_btb _ _ _) (setOkB _ _) (by cases b <;> exact (by decide)) fun h1 d I vs X hI hp k1 => ?_))
  have hv : vs = [.bool b] := by
    have : (bes (!b) b).toList.map (·.2) = [.bool b] := by cases b <;> rfl
    rw [this] at hp
    exact List.perm_singleton.mp hp
  subst hv
  unfold draw
  refine wpAny_bind (wpAny_holding (wpAny_bind (setit_next (s := { s with heap := h1, drawn := d }) X (v := .bool b) rfl fun h2 X2 k2 => ?_)))
  unfold draw
  refine wpAny_bind (wpAny_holding (wpAny_pure (wpAny_pure ?_)))
  rw [if_neg (by simp)]
  refine wpAny_bind (wpAny_holding (setit_end (s := { s with heap := h2, drawn := d }) hh X2 rfl fun h3 k3 => ?_))
  simp only [Option.isSome_none, Bool.false_eq_true, if_false]
  have nI : ∀ {b o}, s.heap.get? b = some o → b ≠ I := fun {b o} e q => by rw [q, hI] at e; cases e
  exact wpAny_pure (hQ h3 d fun b o e => k3 b o (nI e) ((k2.2 b (nI e)).trans (k1 b o e)))

theorem unpackSetTwo {ep : Nat} {Q : List Value → Shared → Prop} (hh : A.handled = none) (so : s.heap.get? D = some (bset (!txtOrd w) true true ep))
    (hE : ∀ h' d tk e, (∀ b o, s.heap.get? b = some o → h'.get? b = some o) → s.heap.get? e = none → (∃ ob t, h'.get? e = some ob ∧ ob.cls = .type "ValueError" ∧ ob.data = .fields #[t, .none, .none, .none, .bool false, .none]) → E (.ref e) { s with heap := h', drawn := d, toks := tk }) :
    wpAny (model prog w) A (unpackItems (.ref D) 1 none) Q E s := by
  have hT : s.TypeIs (.ref D) "set" := ⟨_, so, rfl⟩
  unfold unpackItems
  refine wpAny_bind ?_
  unfold notIterableAtAll
  refine wpAny_bind (wpAny_specialOf hT F.slot_set_iter.lookup ?_)
  refine wpAny_pure ?_
  simp only [Bool.false_eq_true, if_false]
  refine wpAny_bind (wpAny_holding (set_iter so (fits_btb _ _ _) (setOkB _ _) (by decide) fun h1 d I vs X hI hp k1 => ?_))
  have hl : vs.length = 2 := hp.length_eq
  obtain ⟨v1, v2, rfl⟩ := len2 (p := fun vs => ∃ a b, vs = [a, b]) (fun a b => ⟨a, b, rfl⟩) vs hl
  unfold draw
  refine wpAny_bind (wpAny_holding (wpAny_bind (setit_next (s := { s with heap := h1, drawn := d }) X (v := v1) rfl fun h2 X2 k2 => ?_)))
  unfold draw
  refine wpAny_bind (wpAny_holding (wpAny_pure (wpAny_pure ?_)))
  rw [if_neg (by simp)]
  refine wpAny_bind (wpAny_holding (setit_next (s := { s with heap := h2, drawn := d }) X2 (v := v2) rfl fun h3 X3 k3 => ?_))
  simp only [Option.isSome_some, if_true]
  refine wpAny_bind (wpAny_rule ?_)
  have nI : ∀ {b o}, s.heap.get? b = some o → b ≠ I := fun {b o} e q => by rw [q, hI] at e; cases e
  have kk : ∀ b o, s.heap.get? b = some o → h3.get? b = some o := fun b o e => (k3.2 b (nI e)).trans ((k2.2 b (nI e)).trans (k1 b o e))
  have fin : ∀ h' tk e, Heap.NewExc h3 h' e "ValueError" → E (.ref e) { s with heap := h', drawn := d, toks := tk } := fun h' tk e x => hE h' d tk e (fun b o q => x.keeps b o (kk b o q)) (by
    cases q : s.heap.get? e with
    | none => rfl
    | some o => have := kk e o q; rw [x.new] at this; cases this) x.there
  first
    | exact wpAny_bind (wpAny_raiseErrorMade plainExc_ValueError hh fin)
    | exact wpAny_raiseErrorMade plainExc_ValueError hh fin
end

section
variable {C : Cx} {X Xi Φ Φ' : Led} {ρ ρ' : Loc} {s s' : Shared} {x y : Str} {pos spos cp tp px py np : Pos} {k : Nat} {e o : Expr} {scope : Scope} {cl : List (Str × Addr)} {Q : Out → Prop}

theorem assign_set1 {M : Model} {A : Around} {E : Value → Shared → Prop} {env : Env} {v : Value} {R : Unit → Shared → Prop} (h : wpAny M A (unpackItems v 1 none) (fun items s' => wpAny M A (assignInOrder ((assignEach [.Name y py] env).map (·.2)) items) R E s') E s) :
    wpAny M A (PySem.assign (.Tuple [.Name y py] k tp) env v) R E s := by
  rw [assign_Tuple]
  refine wpAny_bind (wpAny_standAt ?_)
  unfold unpack
  exact wpAny_bind (wpAny_holding h)

theorem SxJ.setOne {α : Type} {xs : List α} {g : α → Dat} {r : α → Bool} {b : Bool} {elt iter : Expr} (hit : ItJ C ρ (.Name x px) iter ((xs.map g).map fun d ρ => (x, .dat d) :: ρ)) (hh : C.A.handled = none) (K : Caught C scope cl ρ ρ')
    (body : ∀ q : CompP, ∀ a ∈ xs, EvJ (compC C scope cl q) ((x, .dat (g a)) :: ρ') elt (.dat (.bool (r a)))) (hne : xs ≠ []) (hr : ∀ a ∈ xs, r a = b) (hk : Kept C y) (hq : Q (.next ((y, .dat (.bool b)) :: ρ)))
    (hx : scope.names.lookup x = some .local := by rfl) (hs : ∀ x, foldedSetIterable iter C.env x = pure x := by intro a; rfl)
    (hsw : swapsWithSole [.Tuple [.Name y py] k tp] (.SetComp elt [⟨.Name x px, iter, [], 0⟩] scope spos) pos.line C.env = pure false := by rfl)
    (hst : swappedStores [.Tuple [.Name y py] k tp] (.SetComp elt [⟨.Name x px, iter, [], 0⟩] scope spos) C.env = pure none := by rfl) :
    SxJ C ρ (.Assign [.Tuple [.Name y py] k tp] (.SetComp elt [⟨.Name x px, iter, [], 0⟩] scope spos) pos) Q := fun X Φ f s H => by
  refine Assign_Tuple ?_ hsw hst
  rw [arm_eval_SetComp]
  refine setCore (cp := iter.pos) hit hh K hx body H (fun D s1 Φ1 ep g1 H1 so => ?_) hs
  have e1 : (xs.any fun a => !r a) = !b ∧ xs.any r = b := by
    obtain ⟨a, l, rfl⟩ := List.exists_cons_of_ne_nil hne
    cases b with
    | true =>
      refine ⟨List.any_eq_false.mpr fun z hz => by rw [hr z hz]; decide, List.any_eq_true.mpr ⟨a, .head _, hr a (.head _)⟩⟩
    | false =>
      refine ⟨List.any_eq_true.mpr ⟨a, .head _, by rw [hr a (.head _)]; rfl⟩, List.any_eq_false.mpr fun z hz => by rw [hr z hz]; decide⟩
  rw [e1.1, e1.2] at so
  refine assign_set1 (unpackSetOne hh so fun h' d k1 => ?_)
  exact inOrderE (ns := [y]) (ds := [.bool b]) rfl rfl (.one (.bool _)) (fun n hn => by rw [List.mem_singleton.mp hn]; exact hk) (AtM.at (AtM.keeps H1 (s' := { s1 with heap := h', drawn := d }) k1 rfl rfl)) fun s2 H2 => ⟨Φ1, .next _, g1, hq, H2⟩

theorem SxJ.setOneX {α : Type} {xs : List α} {g : α → Dat} {r : α → Bool} {elt iter : Expr} (hit : ItJ C ρ (.Name x px) iter ((xs.map g).map fun d ρ => (x, .dat d) :: ρ)) (hh : C.A.handled = none) (K : Caught C scope cl ρ ρ')
    (body : ∀ q : CompP, ∀ a ∈ xs, EvJ (compC C scope cl q) ((x, .dat (g a)) :: ρ') elt (.dat (.bool (r a)))) (h1 : (xs.any fun a => !r a) = true) (h2 : xs.any r = true) (hq : Q (.exc ("ValueError", true) ρ))
    (hx : scope.names.lookup x = some .local := by rfl) (hs : ∀ x, foldedSetIterable iter C.env x = pure x := by intro a; rfl)
    (hsw : swapsWithSole [.Tuple [.Name y py] k tp] (.SetComp elt [⟨.Name x px, iter, [], 0⟩] scope spos) pos.line C.env = pure false := by rfl)
    (hst : swappedStores [.Tuple [.Name y py] k tp] (.SetComp elt [⟨.Name x px, iter, [], 0⟩] scope spos) C.env = pure none := by rfl) :
    SxJ C ρ (.Assign [.Tuple [.Name y py] k tp] (.SetComp elt [⟨.Name x px, iter, [], 0⟩] scope spos) pos) Q := fun X Φ f s H => by
  refine Assign_Tuple ?_ hsw hst
  rw [arm_eval_SetComp]
  refine setCore (cp := iter.pos) hit hh K hx body H (fun D s1 Φ1 ep g1 H1 so => ?_) hs
  rw [h1, h2] at so
  refine assign_set1 (unpackSetTwo hh so fun h' d tk e k1 nw ⟨ob, t, a1, a2, a3⟩ => ?_)
  have nn := AtM.new0 H1 nw
  exact ⟨Φ1, _, ρ, true, g1, hq, ⟨f, AtM.keeps H1 (s' := { s1 with heap := h', drawn := d, toks := tk }) k1 rfl rfl⟩, e, ob, _, rfl, a1, a2, a3, nn.1, nn.2, fun zz1 => rfl, .inl ⟨rfl, rfl⟩⟩
end
end Mine
end
section
open PySem PySem.W PySem.Calls PyProof.Rows PyProof.V
namespace Mine

section
variable {M : Model} {A : Around} {E : Value → Shared → Prop} {s : Shared} {env : Env}
theorem raiseStmt_from {cls : String} (F : ExcRaiseFacts cls) {x c : Sem Value} {Q : Flow → Shared → Prop} (hc : ∀ (Q : Value → Shared → Prop) (E : Value → Shared → Prop) s, Q .none s → wpAny M A c Q E s)
    (h : wpAny M A x (fun v s₁ => ∃ e t, v = .ref e ∧ s₁.heap.get? e = some { cls := .type cls, data := .fields #[.ref t, .none, .none, .none, .bool false, .none] } ∧
      ∀ h', h'.get? e = some { cls := .type cls, data := .fields #[.ref t, .none, .none, .none, .bool true, .none] } → Heap.SameBut e s₁.heap h' → wpAny M A (raiseNew (.ref e) : Sem Flow) Q E { s₁ with heap := h' }) E s) :
    wpAny M A (raiseStmt env (some x) (some c)) Q E s := by
  unfold raiseStmt
  refine wpAny_bind (wpAny_mono h (fun v s₁ h₁ => ?_) fun zz1 zz2 x => x)
  obtain ⟨e, t, rfl, he, hE⟩ := h₁
  refine wpAny_bind (wpAny_holding (hc _ _ _ (wpAny_bind (wpAny_pure ?_))))
  obtain ⟨hp, g, d, tk, os⟩ := s₁
  have hsub := F.isExc
  have hmeta := F.plainMeta
  have hx : wpAny M A (excFromValue (.ref e) "exceptions must derive from BaseException") (fun v s' => v = .ref e ∧ s' = ⟨hp, g, d, tk, os⟩) E ⟨hp, g, d, tk, os⟩ := by
    repeat (first | refine wpAny_loadPart he ?_ | wp_step)
    exact ⟨rfl, rfl⟩
  refine wpAny_bind (wpAny_holding (wpAny_mono hx (fun v s' ⟨e1, e2⟩ => ?_) fun zz1 zz2 e => e))
  subst e1 e2
  dsimp only
  rw [if_pos (show (Value.none == Value.none) = true from rfl)]
  refine wpAny_bind (wpAny_pure ?_)
  refine wpAny_bind (wpAny_setField he rfl (by simp) ?_)
  have he1 := Heap.get?_update_self (Obj.mapFields (·.setIfInBounds 3 Value.none)) he rfl
  refine wpAny_bind (wpAny_setField he1 rfl (by simp) ?_)
  have he2 := Heap.get?_update_self (Obj.mapFields (·.setIfInBounds 4 (Value.bool true))) he1 rfl
  have hsb : Heap.SameBut e hp ((hp.update e (Obj.mapFields (·.setIfInBounds 3 Value.none))).update e (Obj.mapFields (·.setIfInBounds 4 (Value.bool true)))) := (Heap.SameBut.update ..).trans (Heap.SameBut.update ..)
  have he3 : ((hp.update e (Obj.mapFields (·.setIfInBounds 3 Value.none))).update e (Obj.mapFields (·.setIfInBounds 4 (Value.bool true)))).get? e = some { cls := .type cls, data := .fields #[.ref t, .none, .none, .none, .bool true, .none] } := he2
  have go := hE _ he3 hsb
  generalize (hp.update e (Obj.mapFields (·.setIfInBounds 3 Value.none))).update e (Obj.mapFields (·.setIfInBounds 4 (Value.bool true))) = h2 at he3 go ⊢
  repeat (first | refine wpAny_loadPart he3 ?_ | wp_step)
  exact go
end

section
variable {C : Cx} {X Xi Φ Φ' : Led} {ρ ρ' : Loc} {s s' : Shared} {e o : Expr} {x : Str} {pos px np cp cpos p1 p2 : Pos} {k k2 : Nat} {Q : Out → Prop} {n : String × Bool} {ds : List Dat} {t : Str}

theorem SxJ.raiseFrom {q : MkP} {nq : String} (hq : q.Has (nq, true)) (hr : Q (.exc ("ValueError", false) ρ)) (hk : C.env.kindOf "ValueError" = some .globalImplicit := by rfl) :
    SxJ (mkC C q) ρ (.Raise (some (.Call (.Name "ValueError" np) [.Constant (.str t) k p1] [] cp)) (some (.Constant .none k2 p2)) pos) Q := fun X Φ f s H => by
  rw [arm_exec_Raise]
  refine wpAny_bind (wpAny_standAt ?_)
  refine raiseStmt_from (x := do let v ← eval (.Call (.Name "ValueError" np) [.Constant (.str t) k p1] [] cp) (mkC C q).env; standAt pos; pure v) (c := do let v ← eval (.Constant .none k2 p2) (mkC C q).env; standAt pos; pure v) F.excRaise_ValueError (fun Q' E' s' h' => wpAny_bind (Constant_none (wpAny_bind (wpAny_standAt (wpAny_pure h'))))) ?_
  refine wpAny_bind (wpAny_Call_ofName (ff (biGo (C := mkC C q) H (by decide +kernel) (v := .type "ValueError") (by rfl) ?_ hk)))
  refine callWith_excType rfl (Calls.evalArgs_plain (Calls.spliced_cons ?_))
  refine ff (wpAny_mono (EvJ.strC (C := mkC C q) (ρ := ρ) (k := k) (pos := p1) (t := t) X Φ f s H) (fun v s1 ⟨Φ1, g1, H1, i1⟩ => Calls.spliced_nil ?_) fun zz1 zz2 f => f)
  obtain ⟨hp, g, d, tk, os⟩ := s1
  refine wpAny_call_exc F.excCall_ValueError (fun h' a hm => ?_) (by simp [sizeLine_eq])
  refine wpAny_bind (wpAny_standAt (wpAny_pure ?_))
  obtain ⟨kp, nw, tt, h3, h4, h5⟩ := hm
  refine ⟨a, tt, rfl, h3, fun h2 o2 k2 => ?_⟩
  obtain ⟨oq, vq, hq1, hq2, hq3, hq4⟩ := hq
  obtain ⟨sl, hq5⟩ := H1.keep.on q.e oq hq1
  have nw' : hp.get? a = none := nw
  have hne : q.e ≠ a := fun e => by
    have hq6 : hp.get? q.e = some { oq with slots := sl } := hq5
    rw [e, nw'] at hq6; cases hq6
  have hq6 : h2.get? q.e = some { oq with slots := sl } := (k2.2 _ hne).trans (kp _ _ hq5)
  refine raiseNew_in (h := q.e) rfl hne hq6 hq3 (hq4 rfl) o2 rfl (by simp) ?_
  have o3 := Heap.get?_update_self (Obj.mapFields (·.setIfInBounds 2 (Value.ref q.e))) o2 rfl
  have nn := AtM.new0 H1 nw
  refine ⟨Φ1, _, ρ, true, g1, hr, ⟨f, AtM.keeps H1 (s' := ⟨h2.update a (Obj.mapFields (·.setIfInBounds 2 (Value.ref q.e))), g, d, tk, os⟩) (fun b o e => ?_) rfl rfl⟩, a, _, _, rfl, o3, rfl, rfl, nn.1, nn.2, (fun e => by cases e), .inl ⟨rfl, rfl⟩⟩
  have hb : b ≠ a := fun e2 => by
    have e3 : hp.get? b = some o := e
    rw [e2, nw'] at e3; cases e3
  exact (Heap.get?_update_other _ _ (Ne.symm hb)).trans ((k2.2 b hb).trans (kp b o e))
end
end Mine
end
section
open PySem PySem.W PySem.Calls PyProof.Rows PyProof.V
namespace Mine

section
variable {C : Cx} {X Xi Φ Φ' : Led} {ρ ρ' : Loc} {s s' : Shared} {e o : Expr} {x x1 x2 : Str} {pos px np cp cpos p1 p2 p3 tpos : Pos} {k k2 kk : Nat} {Q : Out → Prop} {n : String × Bool} {ds : List Dat} {t : Str}

theorem XIn.keeps {v : Value} {b : Bool} (h : XIn C X s v n b) (k : ∀ b o, s.heap.get? b = some o → s'.heap.get? b = some o) : XIn C X s' v n b := by
  obtain ⟨a, ob, vs, he, ha, hc, hd, h0, hX, h2, hcase⟩ := h
  refine ⟨a, ob, vs, he, k _ _ ha, hc, hd, h0, hX, h2, hcase.imp id ?_⟩
  rintro ⟨T, oT, ts, f1, h1, hTa, hT, r1, r2, r3, r4, r5⟩
  exact ⟨T, oT, ts, f1, h1, hTa, k _ _ hT, r1, r2, r3, r4, r5⟩

theorem SxJ.tryPass (hstk : ∃ outer, C.stk = C.env :: outer) {body suite : List Stmt} {T T1 T2 : String} {b₀ : Stmt}
    (h : ExJ C ρ body (fun o => match o with | .exc n ρ' => n.1 = T ∧ Q (.exc n ρ') | o => Q o))
    (hexc1 : isSubtype (.type T1) (.type "BaseException") = pure true) (hnt1 : isSubtype (.type ((Manifest.find? T1).elim "type" fun x => x.metatype)) (.type "tuple") = pure false)
    (hexc2 : isSubtype (.type T2) (.type "BaseException") = pure true) (hnt2 : isSubtype (.type ((Manifest.find? T2).elim "type" fun x => x.metatype)) (.type "tuple") = pure false)
    (hsub1 : isSubtype (.type T) (.type T1) = pure false) (hsub2 : isSubtype (.type T) (.type T2) = pure false)
    (hv1 : bootBuiltins x1 = some (.type T1)) (hb1 : x1 ∈ biNames) (hk1 : C.env.kindOf x1 = some .globalImplicit) (hd1 : (x1 == ("__debug__" : Str)) = false)
    (hv2 : bootBuiltins x2 = some (.type T2)) (hb2 : x2 ∈ biNames) (hk2 : C.env.kindOf x2 = some .globalImplicit) (hd2 : (x2 == ("__debug__" : Str)) = false) :
    SxJ C ρ (.Try body [.ExceptHandler (some (.Tuple [.Name x1 p1, .Name x2 p2] kk tpos)) none (b₀ :: suite) p3] [] [] pos) Q := fun X Φ f s H => by
  refine wpAny_Try_except (wpAny_mono (h X Φ f s H) (fun fl s1 hd => ?_) fun e s1 hd => ?_)
  · obtain ⟨Φ', o, g1, g2, g3⟩ := hd
    exact tryGo (R := fun n ρ' => n.1 = T ∧ Q (.exc n ρ')) g1 g2 g3
  · obtain ⟨Φ1, n, ρ1, new, g1, ⟨hn, hR⟩, ⟨f1, H1⟩, hx1⟩ := hd
    refine noteGo H1 hstk hx1 fun s2 H2 hx2 => flightGo (new := true) H2 hx2 (XIn.tbd hx2) rfl fun s3 H3 hx3 htb3 => ?_
    obtain ⟨hm, K⟩ := minusOf C X f1.ow s3.heap
    obtain ⟨a, ob, vs, rfl, ha, hc, hd, h0, hX, h2, hcase⟩ := id hx3
    have HM : AtF (mkC C ⟨hm, Φ1, a⟩) X Φ1 ρ1 f1 s3 := AtM.rebase H3 K ⟨rfl, rfl, rfl⟩
    refine wpAny_handleBy_tup2 hexc1 hnt1 hexc2 hnt2 hsub1 hsub2 ?_
    refine Tuple_ (Calls.spliced_cons (ff (biGo (C := mkC C ⟨hm, Φ1, a⟩) HM hb1 hv1 ?_ hk1 hd1)))
    refine Calls.spliced_cons (ff (biGo (C := mkC C ⟨hm, Φ1, a⟩) HM hb2 hv2 ?_ hk2 hd2))
    refine Calls.spliced_nil (wpAny_newObj_type ?_ (by size_fits))
    have kk : ∀ b o, s3.heap.get? b = some o → (s3.heap.push { cls := .type "tuple", dict := none, data := .seq [Value.type T1, .type T2].toArray }).get? b = some o := fun b o e => Heap.get?_push_of_some _ e
    refine ⟨_, rfl, IsTup.new _ _, ⟨ob, kk _ _ ha, by rw [hc, hn]⟩, ?_⟩
    rw [if_neg (by decide)]
    have H4 := AtM.keeps H3 (s' := { s3 with heap := s3.heap.push { cls := .type "tuple", dict := none, data := .seq [Value.type T1, .type T2].toArray } }) kk rfl rfl
    have hx4 := XIn.keeps (s' := { s3 with heap := s3.heap.push { cls := .type "tuple", dict := none, data := .seq [Value.type T1, .type T2].toArray } }) hx3 kk
    obtain ⟨a', ob', vs', T', e1, e2, e3, e4⟩ := htb3
    cases e1
    rw [ha] at e2; cases e2
    refine wpAny_handleBy_nil ?_
    unfold PySem.passOn
    refine wpAny_bind (wpAny_field (kk _ _ ha) e3 e4 ?_)
    rw [if_neg (show ¬ ((Value.ref T' == Value.none) = true) from by simp)]
    refine wpAny_bind (flightGo (new := false) H4 hx4 ⟨a, ob, vs', T', rfl, kk _ _ ha, e3, e4⟩ rfl fun s6 H6 hx6 zz1 => ?_)
    exact wpAny_throw ⟨Φ1, n, _, false, g1, hR, ⟨f1, H6⟩, hx6⟩
end
end Mine
end
section
open PySem PySem.W PySem.Calls PyProof.Rows PyProof.V
namespace Mine

section
variable {prog : Program} {w : World} {A : Around} {E : Value → Shared → Prop} {s : Shared}

theorem min_two {l : Addr} {va vb : Value} {b : Bool} {Q : Value → Shared → Prop} (hh : A.handled = none) (hl : s.heap.IsList l #[va, vb])
    (hc : ∀ h' : Heap, (∀ b o, s.heap.get? b = some o → h'.get? b = some o) → LtAt A.in1 { s with heap := h' } vb va b)
    (hQ : ∀ h', (∀ b o, s.heap.get? b = some o → h'.get? b = some o) → Q (if b = true then vb else va) { s with heap := h' }) : wpAny (model prog w) A (call (.builtin "min") [.ref l]) Q E s := by
  have hname : (toString "min" ++ toString ".loop" : String) = "min.loop" := by decide
  refine call_function_tree F.kind_min F.plain_min F.entry_min (F.args_min1 _) ?_
  show wpAny _ A.in1 (Builtin.Builtins.bindParams "min" ["key", "default"] 0 ⟨[], []⟩ >>= _) _ _ s
  refine wpAny_bind (wpAny_of_eq (show Builtin.Builtins.bindParams "min" ["key", "default"] 0 ⟨[], []⟩ = pure [none, none] from rfl) ?_)
  refine wpAny_bind (wpAny_pure ?_)
  have hlt : l < s.heap.objs.size := by obtain ⟨o, ho, _⟩ := hl; exact Heap.lt_size ho
  refine wpAny_bind (wpAny_pyIter_list hl ?_)
  refine wpAny_bind (wpAny_newObj_type ?_)
  rw [hname]
  generalize hI : s.heap.objs.size = I at hlt
  have hit0 : (s.heap.push { cls := .type "list_iterator", data := .fields #[.ref l, .int 0 0] }).IsListIter I l 0 := ⟨_, by rw [← hI]; exact Heap.get?_push_size _ rfl, rfl, rfl⟩
  have hz1 : (s.heap.push { cls := .type "list_iterator", data := .fields #[.ref l, .int 0 0] }).objs.size = I + 1 := by rw [Heap.size_push, hI]
  have k0 : ∀ b o, s.heap.get? b = some o → (s.heap.push { cls := .type "list_iterator", data := .fields #[.ref l, .int 0 0] }).get? b = some o := fun b o e => Heap.get?_push_of_some _ e
  generalize s.heap.push { cls := .type "list_iterator", data := .fields #[.ref l, .int 0 0] } = h1 at hit0 hz1 k0 ⊢
  rw [hz1]
  have hS0 : (h1.push { cls := .type "list", dict := none, data := .seq ([] : List Value).toArray }).get? (I + 1) = some (listOf #[] 0) := by rw [← hz1]; exact Heap.get?_push_size _ rfl
  have k1 : ∀ b o, h1.get? b = some o → (h1.push { cls := .type "list", dict := none, data := .seq ([] : List Value).toArray }).get? b = some o := fun b o e => Heap.get?_push_of_some _ e
  generalize h1.push { cls := .type "list", dict := none, data := .seq ([] : List Value).toArray } = h2 at hS0 k1 ⊢
  have nI : ∀ {b o}, s.heap.get? b = some o → b ≠ I ∧ b ≠ I + 1 := fun {b o} e => by
    have := Heap.lt_size e
    rw [hI] at this
    exact ⟨Nat.ne_of_lt this, Nat.ne_of_lt (Nat.lt_succ_of_lt this)⟩
  have hit2 : h2.IsListIter I l 0 := hit0.at fun o e => k1 _ o e
  have hl2 : h2.IsList l #[va, vb] := hl.at fun o e => k1 _ o (k0 _ o e)
  have hlI : l ≠ I := Nat.ne_of_lt hlt
  have hlS : l ≠ I + 1 := Nat.ne_of_lt (Nat.lt_succ_of_lt hlt)
  have hIS : I ≠ I + 1 := Nat.ne_of_lt (Nat.lt_succ_self _)
  -- the first
  refine wpAny_pure ⟨plainId_quiet F.plain_min_loop _, codeAny_builtin F.entry_min_loop ?_⟩
  rw [Around.under_plainId F.plain_min_loop _]
  show wpAny _ A.in1 (seqItems? (.ref (I + 1)) >>= _) _ _ _
  refine wpAny_bind (wpAny_seqItems hS0 rfl ?_)
  show wpAny _ A.in1 (tryCatch (pyNext (.ref I)) _ >>= _) _ _ _
  refine wpAny_bind (wpAny_tryCatch (wpAny_pyNext_list_item (s := { s with heap := h2 }) hit2 hl2 (x := va) rfl fun h3 hit3 k3 => ?_))
  have hS3 := (k3.2 _ (Ne.symm hIS)).trans hS0
  show wpAny _ A.in1 (updateSeq (I + 1) (fun zz1 => #[va, va]) >>= _) _ _ _
  refine wpAny_bind ?_
  refine wpAny_updateSeq hS3 rfl ?_
  have hS4 := get?_update_seq hS3 (fun zz1 => #[va, va])
  have k4 : Heap.SameBut (I + 1) h3 (h3.update (I + 1) (Obj.mapSeq fun zz1 => #[va, va])) := Heap.SameBut.update ..
  generalize h3.update (I + 1) (Obj.mapSeq fun zz1 => #[va, va]) = h4 at hS4 k4 ⊢
  have hit4 : h4.IsListIter I l 1 := hit3.at fun o e => (k4.2 _ hIS).trans e
  have hl4 : h4.IsList l #[va, vb] := hl2.at fun o e => (k4.2 _ hlS).trans ((k3.2 _ hlI).trans e)
  rw [hname]
  -- the second
  refine wpAny_pure ⟨plainId_quiet F.plain_min_loop _, codeAny_builtin F.entry_min_loop ?_⟩
  rw [Around.under_plainId F.plain_min_loop _]
  show wpAny _ A.in1 (seqItems? (.ref (I + 1)) >>= _) _ _ _
  refine wpAny_bind (wpAny_seqItems hS4 rfl ?_)
  show wpAny _ A.in1 (tryCatch (pyNext (.ref I)) _ >>= _) _ _ _
  refine wpAny_bind (wpAny_tryCatch (wpAny_pyNext_list_item (s := { s with heap := h4 }) hit4 hl4 (x := vb) rfl fun h5 hit5 k5 => ?_))
  have hS5 := (k5.2 _ (Ne.symm hIS)).trans hS4
  have hl5 : h5.IsList l #[va, vb] := hl4.at fun o e => (k5.2 _ hlI).trans e
  have kk5 : ∀ b o, s.heap.get? b = some o → h5.get? b = some o := fun b o e => (k5.2 b (nI e).1).trans ((k4.2 b (nI e).2).trans ((k3.2 b (nI e).1).trans (k1 b o (k0 b o e))))
  show wpAny _ A.in1 (tryCatch (holding [vb, vb] (richCompare .Lt vb va >>= _)) _ >>= _) _ _ _
  refine wpAny_bind (wpAny_tryCatch (wpAny_holding (wpAny_bind (hc h5 kk5 prog w _ _ ?_))))
  refine wpAny_bind (wpAny_holding (wpAny_truthy_bool ?_))
  refine wpAny_bind (wpAny_letGo (wpAny_pure ?_))
  have last : ∀ (v : Value) (h6 : Heap) (c : Nat), h6.IsListIter I l 2 → h6.IsList l #[va, vb] → h6.get? (I + 1) = some (listOf #[v, v] c) → (∀ b o, s.heap.get? b = some o → h6.get? b = some o) → v = (if b = true then vb else va) →
      codeAny (model prog w) A (.builtin "min.loop" ⟨[.ref I, .none, .ref (I + 1)], []⟩) (fun r s' => match r with | .ok (.ret v) => Q v s' | .ok _ => False | .error e => E e s') { s with heap := h6 } := fun v h6 c i6 l6 S6 k6 ev => by
    refine codeAny_builtin F.entry_min_loop ?_
    rw [Around.under_plainId F.plain_min_loop _]
    show wpAny _ A.in1 (seqItems? (.ref (I + 1)) >>= _) _ _ _
    refine wpAny_bind (wpAny_seqItems S6 rfl ?_)
    show wpAny _ A.in1 (tryCatch (pyNext (.ref I)) _ >>= _) _ _ _
    refine wpAny_bind (wpAny_tryCatch (wpAny_pyNext_list_end (s := { s with heap := h6 }) (A := A.in1) hh i6 l6 rfl fun h7 k7 => ?_))
    have S7 := k7 _ _ (Ne.symm hIS) S6
    show wpAny _ A.in1 (updateSeq (I + 1) (fun zz1 => #[]) >>= _) _ _ _
    refine wpAny_bind ?_
    refine wpAny_updateSeq S7 rfl (wpAny_bind (wpAny_letGo (wpAny_pure ?_)))
    subst ev
    exact hQ _ fun b o e => (Heap.get?_update_other _ _ (Ne.symm (nI e).2)).trans (k7 b o (nI e).1 (k6 b o e))
  cases b with
  | true =>
    simp only [if_true]
    refine wpAny_bind ?_
    refine wpAny_updateSeq hS5 rfl (wpAny_bind (wpAny_letGo ?_))
    have hS6 := get?_update_seq hS5 (fun zz1 => #[vb, vb])
    have k6 : Heap.SameBut (I + 1) h5 (h5.update (I + 1) (Obj.mapSeq fun zz1 => #[vb, vb])) := Heap.SameBut.update ..
    generalize h5.update (I + 1) (Obj.mapSeq fun zz1 => #[vb, vb]) = h6 at hS6 k6 ⊢
    rw [hname]
    exact wpAny_pure ⟨plainId_quiet F.plain_min_loop _, last vb h6 _ (hit5.at fun o e => (k6.2 _ hIS).trans e) (hl5.at fun o e => (k6.2 _ hlS).trans e) hS6 (fun b o e => (k6.2 b (nI e).2).trans (kk5 b o e)) rfl⟩
  | false =>
    simp only [Bool.false_eq_true, if_false]
    refine wpAny_bind (wpAny_letGo ?_)
    rw [hname]
    exact wpAny_pure ⟨plainId_quiet F.plain_min_loop _, last va h5 _ hit5 hl5 hS5 kk5 rfl⟩

theorem max_two {l : Addr} {va vb : Value} {b : Bool} {Q : Value → Shared → Prop} (hh : A.handled = none) (hl : s.heap.IsList l #[va, vb])
    (hc : ∀ h' : Heap, (∀ b o, s.heap.get? b = some o → h'.get? b = some o) → GtAt A.in1 { s with heap := h' } vb va b)
    (hQ : ∀ h', (∀ b o, s.heap.get? b = some o → h'.get? b = some o) → Q (if b = true then vb else va) { s with heap := h' }) : wpAny (model prog w) A (call (.builtin "max") [.ref l]) Q E s := by
  have hname : (toString "max" ++ toString ".loop" : String) = "max.loop" := by decide
  refine call_function_tree F.kind_max F.plain_max F.entry_max (F.args_max1 _) ?_
  show wpAny _ A.in1 (Builtin.Builtins.bindParams "max" ["key", "default"] 0 ⟨[], []⟩ >>= _) _ _ s
  refine wpAny_bind (wpAny_of_eq (show Builtin.Builtins.bindParams "max" ["key", "default"] 0 ⟨[], []⟩ = pure [none, none] from rfl) ?_)
  refine wpAny_bind (wpAny_pure ?_)
  have hlt : l < s.heap.objs.size := by obtain ⟨o, ho, _⟩ := hl; exact Heap.lt_size ho
  refine wpAny_bind (wpAny_pyIter_list hl ?_)
  refine wpAny_bind (wpAny_newObj_type ?_)
  rw [hname]
  generalize hI : s.heap.objs.size = I at hlt
  have hit0 : (s.heap.push { cls := .type "list_iterator", data := .fields #[.ref l, .int 0 0] }).IsListIter I l 0 := ⟨_, by rw [← hI]; exact Heap.get?_push_size _ rfl, rfl, rfl⟩
  have hz1 : (s.heap.push { cls := .type "list_iterator", data := .fields #[.ref l, .int 0 0] }).objs.size = I + 1 := by rw [Heap.size_push, hI]
  have k0 : ∀ b o, s.heap.get? b = some o → (s.heap.push { cls := .type "list_iterator", data := .fields #[.ref l, .int 0 0] }).get? b = some o := fun b o e => Heap.get?_push_of_some _ e
  generalize s.heap.push { cls := .type "list_iterator", data := .fields #[.ref l, .int 0 0] } = h1 at hit0 hz1 k0 ⊢
  rw [hz1]
  have hS0 : (h1.push { cls := .type "list", dict := none, data := .seq ([] : List Value).toArray }).get? (I + 1) = some (listOf #[] 0) := by rw [← hz1]; exact Heap.get?_push_size _ rfl
  have k1 : ∀ b o, h1.get? b = some o → (h1.push { cls := .type "list", dict := none, data := .seq ([] : List Value).toArray }).get? b = some o := fun b o e => Heap.get?_push_of_some _ e
  generalize h1.push { cls := .type "list", dict := none, data := .seq ([] : List Value).toArray } = h2 at hS0 k1 ⊢
  have nI : ∀ {b o}, s.heap.get? b = some o → b ≠ I ∧ b ≠ I + 1 := fun {b o} e => by
    have := Heap.lt_size e
    rw [hI] at this
    exact ⟨Nat.ne_of_lt this, Nat.ne_of_lt (Nat.lt_succ_of_lt this)⟩
  have hit2 : h2.IsListIter I l 0 := hit0.at fun o e => k1 _ o e
  have hl2 : h2.IsList l #[va, vb] := hl.at fun o e => k1 _ o (k0 _ o e)
  have hlI : l ≠ I := Nat.ne_of_lt hlt
  have hlS : l ≠ I + 1 := Nat.ne_of_lt (Nat.lt_succ_of_lt hlt)
  have hIS : I ≠ I + 1 := Nat.ne_of_lt (Nat.lt_succ_self _)
  -- the first
  refine wpAny_pure ⟨plainId_quiet F.plain_max_loop _, codeAny_builtin F.entry_max_loop ?_⟩
  rw [Around.under_plainId F.plain_max_loop _]
  show wpAny _ A.in1 (seqItems? (.ref (I + 1)) >>= _) _ _ _
  refine wpAny_bind (wpAny_seqItems hS0 rfl ?_)
  show wpAny _ A.in1 (tryCatch (pyNext (.ref I)) _ >>= _) _ _ _
  refine wpAny_bind (wpAny_tryCatch (wpAny_pyNext_list_item (s := { s with heap := h2 }) hit2 hl2 (x := va) rfl fun h3 hit3 k3 => ?_))
  have hS3 := (k3.2 _ (Ne.symm hIS)).trans hS0
  show wpAny _ A.in1 (updateSeq (I + 1) (fun zz1 => #[va, va]) >>= _) _ _ _
  refine wpAny_bind ?_
  refine wpAny_updateSeq hS3 rfl ?_
  have hS4 := get?_update_seq hS3 (fun zz1 => #[va, va])
  have k4 : Heap.SameBut (I + 1) h3 (h3.update (I + 1) (Obj.mapSeq fun zz1 => #[va, va])) := Heap.SameBut.update ..
  generalize h3.update (I + 1) (Obj.mapSeq fun zz1 => #[va, va]) = h4 at hS4 k4 ⊢
  have hit4 : h4.IsListIter I l 1 := hit3.at fun o e => (k4.2 _ hIS).trans e
  have hl4 : h4.IsList l #[va, vb] := hl2.at fun o e => (k4.2 _ hlS).trans ((k3.2 _ hlI).trans e)
  rw [hname]
  -- the second
  refine wpAny_pure ⟨plainId_quiet F.plain_max_loop _, codeAny_builtin F.entry_max_loop ?_⟩
  rw [Around.under_plainId F.plain_max_loop _]
  show wpAny _ A.in1 (seqItems? (.ref (I + 1)) >>= _) _ _ _
  refine wpAny_bind (wpAny_seqItems hS4 rfl ?_)
  show wpAny _ A.in1 (tryCatch (pyNext (.ref I)) _ >>= _) _ _ _
  refine wpAny_bind (wpAny_tryCatch (wpAny_pyNext_list_item (s := { s with heap := h4 }) hit4 hl4 (x := vb) rfl fun h5 hit5 k5 => ?_))
  have hS5 := (k5.2 _ (Ne.symm hIS)).trans hS4
  have hl5 : h5.IsList l #[va, vb] := hl4.at fun o e => (k5.2 _ hlI).trans e
  have kk5 : ∀ b o, s.heap.get? b = some o → h5.get? b = some o := fun b o e => (k5.2 b (nI e).1).trans ((k4.2 b (nI e).2).trans ((k3.2 b (nI e).1).trans (k1 b o (k0 b o e))))
  show wpAny _ A.in1 (tryCatch (holding [vb, vb] (richCompare .Gt vb va >>= _)) _ >>= _) _ _ _
  refine wpAny_bind (wpAny_tryCatch (wpAny_holding (wpAny_bind (hc h5 kk5 prog w _ _ ?_))))
  refine wpAny_bind (wpAny_holding (wpAny_truthy_bool ?_))
  refine wpAny_bind (wpAny_letGo (wpAny_pure ?_))
  have last : ∀ (v : Value) (h6 : Heap) (c : Nat), h6.IsListIter I l 2 → h6.IsList l #[va, vb] → h6.get? (I + 1) = some (listOf #[v, v] c) → (∀ b o, s.heap.get? b = some o → h6.get? b = some o) → v = (if b = true then vb else va) →
      codeAny (model prog w) A (.builtin "max.loop" ⟨[.ref I, .none, .ref (I + 1)], []⟩) (fun r s' => match r with | .ok (.ret v) => Q v s' | .ok _ => False | .error e => E e s') { s with heap := h6 } := fun v h6 c i6 l6 S6 k6 ev => by
    refine codeAny_builtin F.entry_max_loop ?_
    rw [Around.under_plainId F.plain_max_loop _]
    show wpAny _ A.in1 (seqItems? (.ref (I + 1)) >>= _) _ _ _
    refine wpAny_bind (wpAny_seqItems S6 rfl ?_)
    show wpAny _ A.in1 (tryCatch (pyNext (.ref I)) _ >>= _) _ _ _
    refine wpAny_bind (wpAny_tryCatch (wpAny_pyNext_list_end (s := { s with heap := h6 }) (A := A.in1) hh i6 l6 rfl fun h7 k7 => ?_))
    have S7 := k7 _ _ (Ne.symm hIS) S6
    show wpAny _ A.in1 (updateSeq (I + 1) (fun zz1 => #[]) >>= _) _ _ _
    refine wpAny_bind ?_
    refine wpAny_updateSeq S7 rfl (wpAny_bind (wpAny_letGo (wpAny_pure ?_)))
    subst ev
    exact hQ _ fun b o e => (Heap.get?_update_other _ _ (Ne.symm (nI e).2)).trans (k7 b o (nI e).1 (k6 b o e))
  cases b with
  | true =>
    simp only [if_true]
    refine wpAny_bind ?_
    refine wpAny_updateSeq hS5 rfl (wpAny_bind (wpAny_letGo ?_))
    have hS6 := get?_update_seq hS5 (fun zz1 => #[vb, vb])
    have k6 : Heap.SameBut (I + 1) h5 (h5.update (I + 1) (Obj.mapSeq fun zz1 => #[vb, vb])) := Heap.SameBut.update ..
    generalize h5.update (I + 1) (Obj.mapSeq fun zz1 => #[vb, vb]) = h6 at hS6 k6 ⊢
    rw [hname]
    exact wpAny_pure ⟨plainId_quiet F.plain_max_loop _, last vb h6 _ (hit5.at fun o e => (k6.2 _ hIS).trans e) (hl5.at fun o e => (k6.2 _ hlS).trans e) hS6 (fun b o e => (k6.2 b (nI e).2).trans (kk5 b o e)) rfl⟩
  | false =>
    simp only [Bool.false_eq_true, if_false]
    refine wpAny_bind (wpAny_letGo ?_)
    rw [hname]
    exact wpAny_pure ⟨plainId_quiet F.plain_max_loop _, last va h5 _ hit5 hl5 hS5 kk5 rfl⟩
end

section
variable {C : Cx} {X Xi Φ Φ' : Led} {ρ ρ' : Loc} {s s' : Shared} {x y : Str} {pos cp np : Pos}

theorem EvJ.minE {a b : List (List Nat)} {e : Expr} (he : EvJ C ρ e (.dat (.list [.list (a.map DS), .list (b.map DS)]))) (hh : C.A.handled = none) (ha : ∀ x ∈ a, Asc x) (hb : ∀ x ∈ b, Asc x) (hk : C.env.kindOf "min" = some .globalImplicit := by rfl) (hs : starEach [e] C.env = [(false, eval e C.env)] := by rfl) :
    EvJ C ρ (.Call (.Name "min" np) [e] [] cp) (.dat (.list ((if b < a then b else a).map DS))) := fun X Φ f s H => by
  refine Call_Name1 (biGo H (by decide +kernel) (by rfl) ?_ hk) hs
  refine Calls.callWith_builtin rfl (Calls.evalArgs_plain (Calls.spliced_cons ?_))
  refine wpAny_mono (he X Φ f s H) (fun v s1 ⟨Φ1, g1, H1, i1⟩ => Calls.spliced_nil ?_) fun zz1 zz2 f => f
  obtain ⟨l, vs, n, rfl, hm, hD⟩ := DatIn.listInv i1
  cases hD with
  | cons h1 r =>
  cases r with
  | cons h2 r =>
  cases r with
  | nil =>
  rename_i va vb
  refine min_two (b := decide (b < a)) hh ⟨_, H1.led _ hm, rfl, _, rfl⟩ (fun h' k => ?_) fun h' k => ⟨Φ1, g1, AtM.keeps H1 (s' := { s1 with heap := h' }) k rfl rfl, ?_⟩
  · exact ltTxts (AtM.news (AtM.keeps H1 (s' := { s1 with heap := h' }) k rfl rfl)) (by have := H1.ok.room.2; show C.A.units + 1 + 65 < cLine; lia) hb ha vb va h2 h1
  · by_cases q : b < a
    · rw [if_pos (by simpa using q), if_pos q]; exact h2
    · rw [if_neg (by simpa using q), if_neg q]; exact h1

theorem EvJ.maxE {a b : List (List Nat)} {e : Expr} (he : EvJ C ρ e (.dat (.list [.list (a.map DS), .list (b.map DS)]))) (hh : C.A.handled = none) (ha : ∀ x ∈ a, Asc x) (hb : ∀ x ∈ b, Asc x) (hk : C.env.kindOf "max" = some .globalImplicit := by rfl) (hs : starEach [e] C.env = [(false, eval e C.env)] := by rfl) :
    EvJ C ρ (.Call (.Name "max" np) [e] [] cp) (.dat (.list ((if a < b then b else a).map DS))) := fun X Φ f s H => by
  refine Call_Name1 (biGo H (by decide +kernel) (by rfl) ?_ hk) hs
  refine Calls.callWith_builtin rfl (Calls.evalArgs_plain (Calls.spliced_cons ?_))
  refine wpAny_mono (he X Φ f s H) (fun v s1 ⟨Φ1, g1, H1, i1⟩ => Calls.spliced_nil ?_) fun zz1 zz2 f => f
  obtain ⟨l, vs, n, rfl, hm, hD⟩ := DatIn.listInv i1
  cases hD with
  | cons h1 r =>
  cases r with
  | cons h2 r =>
  cases r with
  | nil =>
  rename_i va vb
  refine max_two (b := decide (a < b)) hh ⟨_, H1.led _ hm, rfl, _, rfl⟩ (fun h' k => ?_) fun h' k => ⟨Φ1, g1, AtM.keeps H1 (s' := { s1 with heap := h' }) k rfl rfl, ?_⟩
  · exact gtTxts (AtM.news (AtM.keeps H1 (s' := { s1 with heap := h' }) k rfl rfl)) (by have := H1.ok.room.2; show C.A.units + 1 + 65 < cLine; lia) hb ha vb va h2 h1
  · by_cases q : a < b
    · rw [if_pos (by simpa using q), if_pos q]; exact h2
    · rw [if_neg (by simpa using q), if_neg q]; exact h1
end
end Mine
end
section
open PySem PySem.W PySem.Calls PyProof.Rows PyProof.V
namespace Mine

theorem tr_tup {ds : List Dat} (hz : ds.length ≤ 1000000) : Tr (.tuple ds) (!ds.isEmpty) := fun C X Φ ρ f s v1 H h1 => by
  obtain ⟨a, vs, n, rfl, hm, hD⟩ := DatIn.tupInv h1
  have hlen := hD.length
  refine truthy_tuple ⟨_, H.led _ hm, rfl, _, rfl⟩ (by rw [List.size_toArray, hlen]; lia) ⟨?_, Φ, fun zz1 h => h, H.toks _⟩
  have : vs.toArray.isEmpty = ds.isEmpty := by
    cases vs <;> cases ds <;> simp_all
  rw [this]
noncomputable def partsL (l : List Nat) : List (List Nat) := (splitL 47 l).filter fun c => decide (c ≠ [] ∧ c ≠ [46])
noncomputable def lcp : List (List Nat) → List (List Nat) → List (List Nat)
  | x :: xs, y :: ys => if x = y then x :: lcp xs ys else []
  | _, _ => []
noncomputable def commonL (a b : List Nat) : List Nat := (if a.head? = some 47 then [47] else []) ++ joinL 47 (lcp (partsL a) (partsL b))

theorem lcp_comm : ∀ a b : List (List Nat), lcp a b = lcp b a
  | [], [] => rfl
  | [], _ :: _ => rfl
  | _ :: _, [] => rfl
  | x :: xs, y :: ys => by
    unfold lcp
    by_cases h : x = y
    · subst h; simp [lcp_comm xs ys]
    · rw [if_neg h, if_neg fun e => h e.symm]
theorem lcp_self : ∀ a : List (List Nat), lcp a a = a
  | [] => rfl
  | x :: xs => by unfold lcp; rw [if_pos rfl, lcp_self xs]
theorem lcp_mm (a b : List (List Nat)) : lcp (if b < a then b else a) (if a < b then b else a) = lcp a b ∧ ((if b < a then b else a) < (if a < b then b else a) ∨ (if b < a then b else a) = (if a < b then b else a)) := by
  by_cases h1 : a < b
  · have h2 : ¬ b < a := fun h => List.lt_irrefl a (List.lt_trans h1 h)
    simp [h1, h2]
  · by_cases h2 : b < a
    · simp [h1, h2, lcp_comm]
    · have : a = b := List.le_antisymm (List.not_lt.mp h2) (List.not_lt.mp h1)
      subst this
      simp [h1]
theorem lcp_at : ∀ (a b : List (List Nat)) (i : Nat), (a < b ∨ a = b) → a.take i = b.take i → i < a.length → ∃ x y, a[i]? = some x ∧ b[i]? = some y ∧ (x ≠ y → lcp a b = a.take i) ∧ (x = y → a.take (i + 1) = b.take (i + 1))
  | [], b, i, _, _, h => by simp at h
  | x :: a, [], i, h, _, _ => by
    rcases h with h | h
    · exact absurd h (List.not_lt_nil _)
    · cases h
  | x :: a, y :: b, 0, h, _, _ => ⟨x, y, rfl, rfl, fun hn => by unfold lcp; rw [if_neg hn]; rfl, fun e => by subst e; simp⟩
  | x :: a, y :: b, i + 1, h, ht, hl => by
    simp only [List.take_succ_cons, List.cons.injEq] at ht
    obtain ⟨rfl, ht⟩ := ht
    have h' : a < b ∨ a = b := by
      rcases h with h | h
      · rcases List.cons_lt_cons_iff.mp h with q | q
        · exact absurd q (List.lt_irrefl _)
        · exact .inl q.2
      · exact .inr (List.cons.inj h).2
    obtain ⟨u, v, h1, h2, h3, h4⟩ := lcp_at a b i h' ht (by simpa using hl)
    refine ⟨u, v, h1, h2, fun hn => ?_, fun e => ?_⟩
    · unfold lcp; rw [if_pos rfl, h3 hn]; rfl
    · simp only [List.take_succ_cons, h4 e]
theorem lcp_all : ∀ (a b : List (List Nat)), (a < b ∨ a = b) → a.take a.length = b.take a.length → lcp a b = a
  | [], _, _, _ => by unfold lcp; rfl
  | x :: a, [], h, _ => by
    rcases h with h | h
    · exact absurd h (List.not_lt_nil _)
    · cases h
  | x :: a, y :: b, h, ht => by
    simp only [List.length_cons, List.take_succ_cons, List.cons.injEq] at ht
    obtain ⟨rfl, ht⟩ := ht
    have h' : a < b ∨ a = b := by
      rcases h with h | h
      · rcases List.cons_lt_cons_iff.mp h with q | q
        · exact absurd q (List.lt_irrefl _)
        · exact .inl q.2
      · exact .inr (List.cons.inj h).2
    unfold lcp
    rw [if_pos rfl, lcp_all a b h' ht]
theorem splitL_sub (c : Nat) : ∀ (l : List Nat), ∀ x ∈ splitL c l, ∀ z ∈ x, z ∈ l
  | [], x, h, z, hz => by
    have : x = [] := by simpa [splitL] using h
    rw [this] at hz; cases hz
  | a :: r, x, h, z, hz => by
    have ih := splitL_sub c r
    unfold splitL at h
    split at h
    · rcases List.mem_cons.mp h with rfl | h
      · cases hz
      · exact .tail _ (ih x h z hz)
    · split at h
      · have : x = [a] := by simpa using h
        rw [this] at hz
        rw [List.mem_singleton.mp hz]; exact .head _
      · rename_i y ys e
        rcases List.mem_cons.mp h with rfl | h
        · rcases List.mem_cons.mp hz with rfl | hz
          · exact .head _
          · exact .tail _ (ih y (by rw [e]; exact .head _) z hz)
        · exact .tail _ (ih x (by rw [e]; exact .tail _ h) z hz)
theorem partsL_ok {l : List Nat} {x : List Nat} (h : x ∈ partsL l) : x.length ≤ l.length ∧ ∀ z ∈ x, z ∈ l :=
  ⟨splitL_mem 47 l x (List.mem_filter.mp h).1, splitL_sub 47 l x (List.mem_filter.mp h).1⟩
theorem partsL_len (l : List Nat) : (partsL l).length ≤ l.length + 1 := Nat.le_trans (List.length_filter_le _ _) (splitL_len 47 l)
theorem mem_mm {a b : List (List Nat)} {p : Prop} [Decidable p] {x : List Nat} (h : x ∈ (if p then b else a)) : x ∈ a ∨ x ∈ b := by
  split at h
  · exact .inr h
  · exact .inl h
theorem lcp_mem : ∀ {a b : List (List Nat)} {x : List Nat}, x ∈ lcp a b → x ∈ a
  | [], _, x, h => by unfold lcp at h; cases h
  | x :: a, [], y, h => by cases h
  | x :: a, z :: b, y, h => by
    unfold lcp at h
    split at h
    · rcases List.mem_cons.mp h with rfl | h
      · exact .head _
      · exact .tail _ (lcp_mem h)
    · cases h
theorem lcp_len : ∀ (a b : List (List Nat)), (lcp a b).length ≤ a.length
  | [], b => by unfold lcp; exact Nat.le_refl _
  | x :: a, [] => by simp [lcp]
  | x :: a, z :: b => by
    unfold lcp
    split
    · have := lcp_len a b; simp; lia
    · simp

section
variable {C : Cx} {ρ ρ' : Loc} {x y : Str} {pos px py : Pos} {scope : Scope} {cl : List (Str × Addr)}
theorem SxJ.assignCompA {α : Type} {xs : List α} {g r : α → Dat} {elt iter : Expr} {Q : Out → Prop} {spos : Pos} (hit : ItJ C ρ (.Name x px) iter ((xs.map g).map fun d ρ => (x, .dat d) :: ρ)) (hh : C.A.handled = none) (K : Caught C scope cl ρ ρ')
    (body : ∀ q : CompP, ∀ a ∈ xs, EvJ (compC C scope cl q) ((x, .dat (g a)) :: ρ') elt (.dat (r a)))
    (hz : xs.length ≤ 1000000) (hk : Kept C y) (hq : Q (.next ((y, .dat (.list (xs.map r))) :: ρ))) (hx : scope.names.lookup x = some .local := by rfl) (hs : ∀ x, foldedSetIterable iter C.env x = pure x := by intro a; rfl)
    (hsw : swapsWith (.ListComp elt [⟨.Name x px, iter, [], 0⟩] scope pos) (some (.Name y py)) spos.line C.env = pure true := by rfl) :
    SxJ C ρ (.Assign [.Name y py] (.ListComp elt [⟨.Name x px, iter, [], 0⟩] scope pos) spos) Q :=
  SxJ.assignComp (p := fun zz1 => true) (pos := pos) hit hh K (fun q a ha => ⟨.nil, fun zz1 => body q a ha⟩) hz hk (by rw [List.filter_eq_self.mpr fun zz1 zz2 => rfl]; exact hq) hx hs hsw
end
noncomputable def tryB : Option Stmt → List Stmt
  | some (.Try b _ _ _ _) => b
  | _ => []
theorem ExJ.never {C : Cx} {ρ : Loc} {x : Str} {av : AV} {b : List Stmt} {Q : Out → Prop} (h : ρ.lookup x = some av) (hk : C.env.kindOf x = none) : ExJ C ρ b Q := fun X Φ f s H => by
  obtain ⟨v, hs, _⟩ := H.loc x av h
  rcases hs with ⟨q, _⟩ | ⟨q | q, _⟩
  · rw [hk] at q; cases q
  · rw [hk] at q; cases q
  · rw [hk] at q; cases q
theorem joinL_le {n : Nat} : ∀ xs : List (List Nat), (∀ x ∈ xs, x.length ≤ n) → (joinL 47 xs).length ≤ xs.length * (n + 1)
  | [], _ => by simp [joinL]
  | [x], h => by have := h x (.head _); simp [joinL]; lia
  | x :: y :: ys, h => by
    have h1 := h x (.head _)
    have h2 := joinL_le (y :: ys) fun z hz => h z (.tail _ hz)
    simp only [joinL, List.length_append, List.length_cons, Nat.add_mul, Nat.one_mul] at h2 ⊢
    lia
theorem cp_tail {p : FnP} {cm : List (List Nat)} {t : Bool} {Q : Out → Prop} (hm : ∀ x ∈ cm, x.length ≤ 900) (hl : cm.length ≤ 901) (hq : Q (.ret (.dat (DS ((if t = true then [47] else []) ++ joinL 47 cm))))) :
    ExJ (fnC "commonpath" (scopeOf "commonpath") 2 p) [("common", .dat (.list (cm.map DS))), ("sep", .dat (DS [47])), ("isabs", .dat (.bool t))] ((tryB ((bodyOf "commonpath")[3]?)).drop 7) Q := by
  have hj := joinL_le cm hm
  have hj2 : (joinL 47 cm).length ≤ 900000 := Nat.le_trans hj (Nat.le_trans (Nat.mul_le_mul_right _ hl) (by lia))
  refine ExJ.cons (SxJ.assign (av := .dat (DS (if t = true then [47] else []))) (EvJ.iteE (TvJ.val (EvJ.name rfl) tr_bool) (fun h => ?_) fun h => ?_) (.loc rfl) ?_)
  · subst h; exact EvJ.name rfl
  · subst h
    exact EvJ.sliceS (l := [47]) (lo := none) (hi := some 0) (EvJ.name rfl) .none (.some EvJ.intC) (by simp)
  refine ExJ.cons (SxJ.ret (EvJ.binop (EvJ.name rfl) (EvJ.meth1 (EvJ.name rfl) (EvJ.name rfl) (meth_join 47 (xs := cm) (fun x hx => by have := hm x hx; lia) (by lia))) (op_addS (by split <;> simp <;> lia))) hq)
section
variable {lv : Nat}
set_option maxHeartbeats 8000000 in
theorem j_commonpath {a b : List Nat} (ha : Asc a) (hb : Asc b) (hza : a.length ≤ 900) (hzb : b.length ≤ 900) (hr : (a.head? = some 47) ↔ (b.head? = some 47)) : FnJ "commonpath" 3 [.list [DS a, DS b]] (.dat (DS (commonL a b))) := by
  refine FnJ.intro (ns := ["paths"]) (pr := parsOf "commonpath") (bd := bodyOf "commonpath") (sc := scopeOf "commonpath") (by rfl) (by decide +kernel) (fun doc pm an cd ct => len1 fun a => rfl) rfl (by decide +kernel) (by decide +kernel) (by decide +kernel) ?_
  intro p hh
  refine ExJ.cons (SxJ.assign (EvJ.tupMap (g := id) (by decide +kernel) (fun d hd => ?_) (Nat.le_refl _) hh (EvJ.name rfl) (by simp)) (.loc rfl) ?_)
  · simp only [List.mem_cons, List.not_mem_nil, or_false] at hd
    rcases hd with rfl | rfl
    · exact j_fspath a
    · exact j_fspath b
  refine ExJ.cons (SxJ.ifs (TvJ.notT (TvJ.val (EvJ.name rfl) (tr_tup (by simp)))) (fun h => by simp at h) fun zz1 => ExJ.nil ?_)
  refine ExJ.cons (SxJ.ifs (TvJ.val (EvJ.isBytes (l := a) (EvJ.itemT (i := 0) (EvJ.name rfl) EvJ.intC (by lia) (by rfl) (by lia))) tr_bool) (fun h => by cases h) fun zz1 => ?_)
  refine ExJ.cons (SxJ.assign EvJ.strC (.cell rfl rfl) ?_)
  refine ExJ.cons (SxJ.assign EvJ.strC (.cell rfl rfl) (ExJ.nil ?_))
  refine ExJ.cons (SxJ.tryQuiet ?_)
  have hsl : ∀ x ∈ [a, b], (splitL 47 x).length ≤ 901 := fun x hx => by
    have := splitL_len 47 x
    simp only [List.mem_cons, List.not_mem_nil, or_false] at hx
    rcases hx with rfl | rfl <;> lia
  refine ExJ.cons (SxJ.assignCompA (xs := [a, b]) (g := DS) (r := fun x => .list ((splitL 47 x).map DS)) (ρ' := [("sep", .dat (DS [47]))]) (ItJ.tup (ds := [DS a, DS b]) (EvJ.name rfl)) hh (Caught.of (.dat rfl (by rfl) (by rfl) .nil) (by rfl) (by rfl) (by rfl) (by rfl) (by rfl) (by rfl)) (fun q x hx => ?_) (by simp) (.loc rfl) ?_)
  · simp only [List.mem_cons, List.not_mem_nil, or_false] at hx
    exact EvJ.meth1 (EvJ.name rfl) (EvJ.name rfl) (meth_split 47 (l := x) (by rcases hx with rfl | rfl <;> lia))
  refine ExJ.cons (SxJ.tryQuiet (ExJ.cons (SxJ.setOne (xs := [a, b]) (g := DS) (r := fun x => decide (x.head? = some 47)) (b := decide (a.head? = some 47)) (ρ' := [("sep", .dat (DS [47]))]) (ItJ.tup (ds := [DS a, DS b]) (EvJ.name rfl)) hh (Caught.of (.dat rfl (by rfl) (by rfl) .nil) (by rfl) (by rfl) (by rfl) (by rfl) (by rfl) (by rfl)) (fun q x hx => ?_) (by simp) (fun x hx => ?_) (.loc rfl) (ExJ.nil ?_))))
  · exact EvJ.meth1 (EvJ.name rfl) (EvJ.name rfl) (meth_starts 47)
  · simp only [List.mem_cons, List.not_mem_nil, or_false] at hx
    rcases hx with rfl | rfl
    · rfl
    · exact decide_eq_decide.mpr hr.symm
  refine ExJ.cons (SxJ.assignCompA (xs := [splitL 47 a, splitL 47 b]) (g := fun x => .list (x.map DS)) (r := fun x => .list ((x.filter fun c => decide (c ≠ [] ∧ c ≠ [46])).map DS)) (ρ' := [("curdir", .dat (DS [46]))]) (ItJ.list (ds := [.list ((splitL 47 a).map DS), .list ((splitL 47 b).map DS)]) (EvJ.name rfl)) hh (Caught.of (.dat rfl (by rfl) (by rfl) .nil) (by rfl) (by rfl) (by rfl) (by rfl) (by rfl) (by rfl)) (fun q x hx => ?_) (by simp) (.loc rfl) ?_)
  · have hxl : x.length ≤ 901 ∧ ∀ c ∈ x, c.length ≤ 900 := by
      simp only [List.mem_cons, List.not_mem_nil, or_false] at hx
      rcases hx with rfl | rfl
      · exact ⟨hsl a (by simp), fun c hc => by have := splitL_mem 47 a c hc; lia⟩
      · exact ⟨hsl b (by simp), fun c hc => by have := splitL_mem 47 b c hc; lia⟩
    refine EvJ.compE (xs := x) (g := DS) (r := DS) (p := fun c => decide (c ≠ [] ∧ c ≠ [46])) (ρ' := [("curdir", .dat (DS [46]))]) (ItJ.list (EvJ.name rfl)) hh (Caught.of (.dat rfl (by rfl) (by rfl) .nil) (by rfl) (by rfl) (by rfl) (by rfl) (by rfl) (by rfl)) (fun q2 c hc => ⟨.one (TvJ.as (TvJ.andT (TvJ.val (EvJ.name rfl) (tr_str (x := c) (by have := hxl.2 c hc; lia))) fun zz1 => TvJ.andT (TvJ.cmp (EvJ.name rfl) (EvJ.name rfl) (op_neS (x := c) (y := [46]))) fun zz1 => .andNil) ?_), fun zz1 => EvJ.name rfl⟩) (by lia)
    by_cases h1 : c = [] <;> by_cases h2 : c = [46] <;> simp [h1, h2]
  show ExJ _ ((_, AV.dat (.list [.list ((partsL a).map DS), .list ((partsL b).map DS)])) :: _) _ _
  have hpa : ∀ x ∈ partsL a, Asc x := fun x hx => asc_sub (partsL_ok hx).2 ha
  have hpb : ∀ x ∈ partsL b, Asc x := fun x hx => asc_sub (partsL_ok hx).2 hb
  have hna := partsL_len a
  have hnb := partsL_len b
  have hla : ∀ x ∈ partsL a, x.length ≤ 900 := fun x hx => by have := (partsL_ok hx).1; lia
  have hlb : ∀ x ∈ partsL b, x.length ≤ 900 := fun x hx => by have := (partsL_ok hx).1; lia
  have hlc := lcp_mm (partsL a) (partsL b)
  have hres : commonL a b = (if a.head? = some 47 then [47] else []) ++ joinL 47 (lcp (partsL a) (partsL b)) := rfl
  rw [← hlc.1] at hres
  refine ExJ.cons (SxJ.assign (EvJ.minE (EvJ.name rfl) hh hpa hpb) (.loc rfl) ?_)
  refine ExJ.cons (SxJ.assign (EvJ.maxE (EvJ.name rfl) hh hpa hpb) (.loc rfl) ?_)
  have hm1 : ∀ x ∈ (if partsL b < partsL a then partsL b else partsL a), x.length ≤ 900 := fun x hx => (mem_mm hx).elim (hla x) (hlb x)
  have hm2 : (if partsL b < partsL a then partsL b else partsL a).length ≤ 901 := by split <;> lia
  have hm3 : (if partsL a < partsL b then partsL b else partsL a).length ≤ 901 := by split <;> lia
  generalize (if partsL b < partsL a then partsL b else partsL a) = s1 at hlc hres hm1 hm2 ⊢
  generalize (if partsL a < partsL b then partsL b else partsL a) = s2 at hlc hres hm3 ⊢
  refine ExJ.cons (SxJ.assign (EvJ.name rfl) (.loc rfl) ?_)
  have hfin : ∀ (cm : List (List Nat)) (ρ' : Loc) (Q : Out → Prop), Q (.ret (.dat (DS (commonL a b)))) → lcp s1 s2 = cm → (Loc.Sub [("common", .dat (.list (cm.map DS))), ("sep", .dat (DS [47])), ("isabs", .dat (.bool (decide (a.head? = some 47))))] ρ') →
      ExJ (fnC "commonpath" (scopeOf "commonpath") 2 p) ρ' ((tryB ((bodyOf "commonpath")[3]?)).drop 7) Q := fun cm ρ' Q hq hcm hsub => by
    subst hcm
    refine ExJ.sub (cp_tail (fun x hx => hm1 x (lcp_mem hx)) (Nat.le_trans (lcp_len _ _) hm2) ?_) hsub
    rw [hres] at hq
    by_cases q : a.head? = some 47
    · simp only [q, decide_true, if_true] at hq ⊢; exact hq
    · simp only [q, decide_false, Bool.false_eq_true, if_false] at hq ⊢; exact hq
  refine ExJ.cons (SxJ.forE (ItJ.enum (ds := s1.map DS) (EvJ.name rfl)) hh (fun ns e => by cases e; exact kept_all (by rfl))
    (fun i => if s1.take i = s2.take i then [("common", .dat (.list (s1.map DS))), ("s1", .dat (.list (s1.map DS))), ("s2", .dat (.list (s2.map DS))), ("sep", .dat (DS [47])), ("isabs", .dat (.bool (decide (a.head? = some 47))))] else [("?", .dat .none)])
    (by simp only [List.take_zero, if_true]; exact .cons rfl (.cons rfl (.cons rfl (.cons rfl (.cons rfl .nil))))) (fun i g hg => ?_) ?_)
  · rw [List.map_map, List.getElem?_map, List.getElem?_zipIdx] at hg
    obtain ⟨u, hu, rfl⟩ := Option.map_eq_some_iff.mp hg
    rw [List.getElem?_map] at hu
    obtain ⟨u0, hu0, rfl⟩ := Option.map_eq_some_iff.mp hu
    obtain ⟨x, hx, rfl⟩ := Option.map_eq_some_iff.mp hu0
    have hil : i < s1.length := (List.getElem?_eq_some_iff.mp hx).1
    by_cases ht : s1.take i = s2.take i
    · rw [if_pos ht]
      obtain ⟨x', y, h1, h2, h3, h4⟩ := lcp_at s1 s2 i hlc.2 ht hil
      rw [hx] at h1; cases h1
      rw [Nat.zero_add]
      refine ExJ.cons (SxJ.ifs (TvJ.cmp (EvJ.name rfl) (EvJ.item (i := (i : Int)) (d := DS y) (EvJ.name rfl) (EvJ.name rfl) (by lia) (by rw [Int.toNat_natCast, List.getElem?_map, h2]; rfl) (by lia)) (op_neS (x := x) (y := y))) (fun h => ?_) fun h => ?_)
      · have hne : x ≠ y := of_decide_eq_true h
        refine ExJ.cons (SxJ.assign (EvJ.sliceL (lo := none) (hi := some (i : Int)) (EvJ.name rfl) .none (.some (EvJ.name rfl)) (by simp; lia)) (.loc rfl) ?_)
        refine ExJ.cons (SxJ.brk ?_)
        rw [sl_take, ← List.map_take]
        refine hfin _ _ _ ?_ (h3 hne) ?_
        · rfl
        exact .cons rfl (.cons rfl (.cons rfl .nil))
      · have he : x = y := by simpa using h
        refine ExJ.nil (ExJ.nil ?_)
        show Loc.Sub (if _ then _ else _) _
        rw [if_pos (h4 he)]
        exact .cons rfl (.cons rfl (.cons rfl (.cons rfl (.cons rfl .nil))))
    · rw [if_neg ht]
      exact ExJ.never (x := "?") (av := .dat .none) rfl (by rfl)
  · simp only [List.length_map, List.length_zipIdx]
    by_cases ht : s1.take s1.length = s2.take s1.length
    · rw [if_pos ht]
      refine hfin s1 _ _ ?_ (lcp_all s1 s2 hlc.2 ht) ?_
      · rfl
      exact .cons rfl (.cons rfl (.cons rfl .nil))
    · rw [if_neg ht]
      exact ExJ.never (x := "?") (av := .dat .none) rfl (by rfl)

set_option maxHeartbeats 8000000 in
theorem j_commonpathX {a b : List Nat} (hza : a.length ≤ 900) (hzb : b.length ≤ 900) (hr : ¬ ((a.head? = some 47) ↔ (b.head? = some 47))) : FnX "commonpath" 3 [.list [DS a, DS b]] ("ValueError", false) := by
  refine FnX.intro (ns := ["paths"]) (pr := parsOf "commonpath") (bd := bodyOf "commonpath") (sc := scopeOf "commonpath") (by rfl) (by decide +kernel) (fun doc pm an cd ct => len1 fun a => rfl) rfl (by decide +kernel) (by decide +kernel) (by decide +kernel) ?_
  intro p hh
  have hstk : ∃ outer, (fnC "commonpath" (scopeOf "commonpath") 2 p).stk = (fnC "commonpath" (scopeOf "commonpath") 2 p).env :: outer := ⟨_, rfl⟩
  refine ExJ.cons (SxJ.assign (EvJ.tupMap (g := id) (by decide +kernel) (fun d hd => ?_) (Nat.le_refl _) hh (EvJ.name rfl) (by simp)) (.loc rfl) ?_)
  · simp only [List.mem_cons, List.not_mem_nil, or_false] at hd
    rcases hd with rfl | rfl
    · exact j_fspath a
    · exact j_fspath b
  refine ExJ.cons (SxJ.ifs (TvJ.notT (TvJ.val (EvJ.name rfl) (tr_tup (by simp)))) (fun h => by simp at h) fun zz1 => ExJ.nil ?_)
  refine ExJ.cons (SxJ.ifs (TvJ.val (EvJ.isBytes (l := a) (EvJ.itemT (i := 0) (EvJ.name rfl) EvJ.intC (by lia) (by rfl) (by lia))) tr_bool) (fun h => by cases h) fun zz1 => ?_)
  refine ExJ.cons (SxJ.assign EvJ.strC (.cell rfl rfl) ?_)
  refine ExJ.cons (SxJ.assign EvJ.strC (.cell rfl rfl) (ExJ.nil ?_))
  refine ExJ.cons (SxJ.tryPass hstk (T := "ValueError") (T1 := "TypeError") (T2 := "AttributeError") ?_ (by rw [isSubtype_type]; kernel_rfl) (by rw [isSubtype_type]; kernel_rfl) (by rw [isSubtype_type]; kernel_rfl) (by rw [isSubtype_type]; kernel_rfl) (by rw [isSubtype_type]; kernel_rfl) (by rw [isSubtype_type]; kernel_rfl)
    (by rfl) (by decide +kernel) (by rfl) (by decide) (by rfl) (by decide +kernel) (by rfl) (by decide))
  refine ExJ.cons (SxJ.assignCompA (xs := [a, b]) (g := DS) (r := fun x => .list ((splitL 47 x).map DS)) (ρ' := [("sep", .dat (DS [47]))]) (ItJ.tup (ds := [DS a, DS b]) (EvJ.name rfl)) hh (Caught.of (.dat rfl (by rfl) (by rfl) .nil) (by rfl) (by rfl) (by rfl) (by rfl) (by rfl) (by rfl)) (fun q x hx => ?_) (by simp) (.loc rfl) ?_)
  · simp only [List.mem_cons, List.not_mem_nil, or_false] at hx
    exact EvJ.meth1 (EvJ.name rfl) (EvJ.name rfl) (meth_split 47 (l := x) (by rcases hx with rfl | rfl <;> lia))
  refine ExJ.cons (SxJ.tryOneX hstk (T := "ValueError") (R := fun n zz1 => n = ("ValueError", true)) ?_ ?_ (by rw [isSubtype_type]; kernel_rfl) (by rw [isSubtype_type]; kernel_rfl) (by rw [isSubtype_type]; kernel_rfl) (by rfl) (by decide +kernel) (by rfl) (by decide))
  · refine ExJ.cons (SxJ.setOneX (xs := [a, b]) (g := DS) (r := fun x => decide (x.head? = some 47)) (ρ' := [("sep", .dat (DS [47]))]) (ItJ.tup (ds := [DS a, DS b]) (EvJ.name rfl)) hh (Caught.of (.dat rfl (by rfl) (by rfl) .nil) (by rfl) (by rfl) (by rfl) (by rfl) (by rfl) (by rfl)) (fun q x hx => ?_) ?_ ?_ ⟨rfl, rfl⟩)
    · exact EvJ.meth1 (EvJ.name rfl) (EvJ.name rfl) (meth_starts 47)
    · by_cases h1 : a.head? = some 47 <;> by_cases h2 : b.head? = some 47 <;> simp [h1, h2] at hr ⊢
    · by_cases h1 : a.head? = some 47 <;> by_cases h2 : b.head? = some 47 <;> simp [h1, h2] at hr ⊢
  · rintro n ρ' _ rfl q hq
    refine ExJ.cons (SxJ.raiseFrom hq ?_)
    exact ⟨rfl, rfl⟩

theorem j_common {a b : List Nat} (ha : Asc a) (hb : Asc b) (hza : a.length ≤ 900) (hzb : b.length ≤ 900) :
    FnJ "_law_common" 4 [DS a, DS b] (.dat (if (a.head? = some 47 ↔ b.head? = some 47) then DS (commonL a b) else .none)) := by
  by_cases h : (a.head? = some 47 ↔ b.head? = some 47)
  · rw [if_pos h]
    exact j_common_val (j_commonpath ha hb hza hzb h)
  · rw [if_neg h]
    exact j_common_exc (j_commonpathX hza hzb h)
end
end Mine
end
section
open PySem PySem.W PySem.Calls PyProof.Rows PyProof.V
namespace Mine

theorem plOk1 {pl : Array Nat} (h : pl.size ≤ 1) : PlOk pl := by
  obtain ⟨l⟩ := pl
  match l, h with
  | [], _ =>
    intro i hi
    have : i = 0 := by simpa using hi
    subst this; rfl
  | [j], _ =>
    intro i hi
    have hi : i ≤ 1 := by simpa using hi
    rcases i with _ | _ | i
    · show SetTable.below #[j] 0 = 0
      unfold SetTable.below
      unfold SetTable.below.go
      simp only [List.size_toArray, List.length_cons, List.length_nil, Nat.zero_add, Nat.zero_lt_one, if_true]
      rw [if_neg (by lia)]
      rfl
    · show SetTable.below #[j] (j + 1) = 1
      unfold SetTable.below
      unfold SetTable.below.go
      simp only [List.size_toArray, List.length_cons, List.length_nil, Nat.zero_add, Nat.zero_lt_one, if_true]
      rw [if_pos (by simp)]
      rfl
    · lia

theorem layNew_led (t : SetTable) (es : Array (Int × Value)) (h : Int) (x : Value) : (layNew t es h x).2.1.led = t.led := by
  unfold layNew
  split
  · dsimp only
    unfold SetTable.orStandIn
    split <;> rfl
  · rfl
theorem relayAll_led (t : SetTable) (es : Array (Int × Value)) (n : Nat) : (relayAll t es n).2.1.led = t.led ∧ (t.plain = false → (relayAll t es n).2.1.plain = false) := by
  unfold relayAll
  split
  · rename_i t' order e
    have hl : t'.led = t.led ∧ t'.plain = t.plain := by
      unfold SetTable.relaid SetTable.laid at e
      cases q : SetTable.layClean (SetTable.sizeAbove n - 1) (es.map (·.1)) with
      | none => rw [q] at e; cases e
      | some ow =>
        rw [q] at e
        have e2 := Option.some.inj e
        obtain ⟨rfl, _⟩ := Prod.mk.inj e2
        exact ⟨rfl, rfl⟩
    dsimp only
    split
    · exact ⟨hl.1, fun h => hl.2.trans h⟩
    · exact ⟨rfl, fun zz1 => rfl⟩
  · exact ⟨rfl, fun zz1 => rfl⟩

theorem nodup_len {α : Type} [DecidableEq α] : ∀ {l₁ l₂ : List α}, l₁.Nodup → (∀ x ∈ l₁, x ∈ l₂) → l₁.length ≤ l₂.length
  | [], _, _, _ => Nat.zero_le _
  | a :: l, l₂, hn, hs => by
    have h1 := List.nodup_cons.mp hn
    have h2 := nodup_len (l₂ := l₂.erase a) h1.2 fun x hx => (List.mem_erase_of_ne (fun e : x = a => h1.1 (e ▸ hx))).mpr (hs x (.tail _ hx))
    have h3 := List.length_erase_of_mem (hs a (.head _))
    have h4 := List.length_pos_of_mem (hs a (.head _))
    rw [List.length_cons]
    lia
structure TSet (w : World) (es : Array (Int × Value)) (t : SetTable) (ts : List Str) : Prop where
  el : ElemsOf (PySem.strKind P w) es.toList
  nd : (es.toList.map fun e => strOf e.2).Nodup
  mem : ∀ x, x ∈ es.toList.map (fun e => strOf e.2) ↔ x ∈ ts
  ft : t.fits es.size = true
  ld : t.led = !txtOrd w
  pl : es.size > 0 → t.plain = false

theorem TSet.ok {w : World} {es : Array (Int × Value)} {t : SetTable} {ts : List Str} (h : TSet w es t ts) : SetOk w es t := fun ht => by
  by_cases hz : es.size > 1
  · exact .inl (by rw [h.pl (by lia)]; simp [hz])
  · refine .inr ⟨by simp [hz], by rw [h.ld, ht]; rfl, plOk1 ?_⟩
    have := h.ft
    simp only [SetTable.fits, Bool.and_eq_true, beq_iff_eq] at this
    lia
theorem TSet.size_le {w : World} {es : Array (Int × Value)} {t : SetTable} {ts : List Str} (h : TSet w es t ts) : es.size ≤ ts.length := by
  have h1 := nodup_len h.nd (fun x hx => (h.mem x).mp hx)
  simpa using h1
theorem strKey {w : World} {v : Value} {x : Str} (h : (PySem.strKind P w).is x v = true) : ∃ t, v = .str x t := Value.isStrOf_shape h

section
variable {w : World} {A : Around} {E : Value → Shared → Prop} {s : Shared}

theorem setAdd_txt {a : Addr} {es : Array (Int × Value)} {t : SetTable} {ep : Nat} {ts : List Str} {x : Str} {u : Tok} {Q : Bool → Shared → Prop} (ho : s.heap.get? a = some (setObj es ep t)) (T : TSet w es t ts) (hz : ts.length ≤ 100)
    (h : ∀ h' es' t' ep' r, Heap.SameBut a s.heap h' → h'.get? a = some (setObj es' ep' t') → TSet w es' t' (ts ++ [x]) → Q r { s with heap := h', toks := s.toks + 1 }) :
    wpAny (model P w) A (setAdd a (.str x u)) Q E s := by
  have hkey : (PySem.strKind P w).is x (.str x u) = true := by show Value.isStrOf x (.str x u) = true; simp [Value.isStrOf]
  have hsz := T.size_le
  unfold setAdd
  refine wpAny_holding (wpAny_bind ((PySem.strKind P w).pyHash hkey ?_))
  unfold setAddHashed setAddHashedIn
  refine wpAny_holding (wpAny_bind (wpAny_setState_of (s := { s with toks := s.toks + 1 }) ho rfl T.ft ?_))
  dsimp only
  rw [byScan_of rfl (by unfold scanBound; lia) T.el]
  simp only [↓reduceIte]
  unfold setAddByScan
  refine wpAny_bind (wpAny_bind (wpAny_rule ?_))
  refine wpAny_bind (wpAny_setScan_of (s := { s with toks := s.toks + 1 }) hkey ho rfl T.ft T.el ?_)
  cases hr : List.findIdx? (fun e => (PySem.strKind P w).is x e.2) es.toList with
  | some j =>
    dsimp only
    refine wpAny_pure (wpAny_pure ?_)
    obtain ⟨hj, hpj, _⟩ := List.findIdx?_eq_some_iff_getElem.mp hr
    have hx : x ∈ ts := (T.mem x).mp (List.mem_map.mpr ⟨es.toList[j], List.getElem_mem hj, by obtain ⟨q, e⟩ := strKey hpj; rw [e]; rfl⟩)
    refine h s.heap es t ep _ (Heap.SameBut.refl a s.heap) ho ⟨T.el, T.nd, fun y => (T.mem y).trans ?_, T.ft, T.ld, T.pl⟩
    rw [List.mem_append, List.mem_singleton]
    exact ⟨.inl, fun q => q.elim id fun e => e ▸ hx⟩
  | none =>
    dsimp only
    have hx : x ∉ ts := fun q => by
      obtain ⟨e, he, hq⟩ := List.mem_map.mp ((T.mem x).mpr q)
      have h1 := List.findIdx?_eq_none_iff.mp hr e he
      obtain ⟨⟨k, hk, _⟩, _⟩ := T.el e he
      obtain ⟨tk, e1⟩ := strKey hk
      rw [e1] at hq
      have : k = x := hq
      subst this
      rw [hk] at h1; cases h1
    have hperm := layNew_perm t es ((PySem.strKind P w).hash x) (.str x u)
    have hfits := layNew_fits t es ((PySem.strKind P w).hash x) (.str x u)
    have hled := layNew_led t es ((PySem.strKind P w).hash x) (.str x u)
    generalize layNew t es ((PySem.strKind P w).hash x) (.str x u) = L at hperm hfits hled ⊢
    obtain ⟨es1, t1, wasDummy, gave⟩ := L
    dsimp only at hperm hfits hled ⊢
    rw [Array.toList_push] at hperm
    have hgw : ∀ (b : Bool) {s₁ : Shared} {Q' : Unit → Shared → Prop}, Q' () s₁ → wpAny (model P w) A (match b with | true => rule "set.scan.the-table-gave-way" | false => pure ()) Q' E s₁ :=
      fun b s₁ Q' hq => by cases b <;> first | exact wpAny_pure hq | exact wpAny_rule hq
    refine wpAny_bind (hgw _ ?_)
    have hs1 : es1.size = es.size + 1 := by rw [← Array.length_toList, hperm.length_eq, List.length_append, Array.length_toList]; rfl
    have T1 : ∀ (es2 : Array (Int × Value)) (t2 : SetTable), es2.toList.Perm es1.toList → t2.fits es2.size = true → t2.led = t.led → t2.plain = false → TSet w es2 t2 (ts ++ [x]) := fun es2 t2 p2 f2 l2 q2 => by
      have pp := p2.trans hperm
      have pm := pp.map fun e : Int × Value => strOf e.2
      refine ⟨(T.el.push hkey rfl).perm pp, ?_, fun y => ?_, f2, l2.trans T.ld, fun zz1 => q2⟩
      · refine pm.nodup_iff.mpr ?_
        rw [List.map_append, List.nodup_append]
        refine ⟨T.nd, by simp, fun a ha b hb e => ?_⟩
        have hb' : b = x := by simpa [strOf] using hb
        exact hx (by rw [← hb', ← e]; exact (T.mem a).mp ha)
      · rw [pm.mem_iff, List.map_append, List.mem_append, T.mem y, List.mem_append]
        simp [strOf]
    have tail : ∀ t2 : SetTable, t2.fits es1.size = true → t2.led = t.led → t2.plain = false → wpAny (model P w) A (do
        storeSet a es1 t2
        if (!wasDummy && t2.tooFull) = true then do
            (match (relayAll t2 es1 (SetTable.grown es1.size)).2.2 with | true => rule "set.scan.the-table-gave-way" | false => pure ())
            storeSet a (relayAll t2 es1 (SetTable.grown es1.size)).1 (relayAll t2 es1 (SetTable.grown es1.size)).2.1
            pure (some true)
          else pure (some true)) (fun r s' => ∀ Q' : Option Bool → Shared → Prop, (∀ h' es' t' ep', Heap.SameBut a s.heap h' → h'.get? a = some (setObj es' ep' t') → TSet w es' t' (ts ++ [x]) → Q' (some true) { s with heap := h', toks := s.toks + 1 }) → Q' r s') E { s with toks := s.toks + 1 } := fun t2 f2 l2 q2 => by
      refine wpAny_bind (wpAny_storeSet_of (s := { s with toks := s.toks + 1 }) ho rfl ?_ (by rw [hs1, sizeLine_eq]; lia))
      have ho1 : (s.heap.update a (Obj.putSet es1 t2)).get? a = some (setObj es1 (ep + 1) t2) := Heap.get?_update_self (Obj.putSet es1 t2) ho rfl
      have k1 : Heap.SameBut a s.heap (s.heap.update a (Obj.putSet es1 t2)) := Heap.SameBut.update ..
      split
      · have hp := relayAll_perm t2 es1 (SetTable.grown es1.size)
        have hfr := relayAll_fits t2 es1 (SetTable.grown es1.size)
        have hlr := relayAll_led t2 es1 (SetTable.grown es1.size)
        generalize relayAll t2 es1 (SetTable.grown es1.size) = R at hp hfr hlr ⊢
        obtain ⟨es3, t3, g3⟩ := R
        dsimp only at hp hfr hlr ⊢
        have hs3 : es3.size = es1.size := by rw [← Array.length_toList, hp.length_eq, Array.length_toList]
        refine wpAny_bind (hgw _ ?_)
        refine wpAny_bind (wpAny_storeSet_of (s := { s with heap := s.heap.update a (Obj.putSet es1 t2), toks := s.toks + 1 }) ho1 rfl ?_ (by rw [hs3, hs1, sizeLine_eq]; lia))
        refine wpAny_pure fun Q' hQ' => hQ' _ es3 t3 _ (k1.trans (Heap.SameBut.update ..)) (Heap.get?_update_self (Obj.putSet es3 t3) ho1 rfl) (T1 es3 t3 hp hfr (hlr.1.trans l2) (hlr.2 q2))
      · exact wpAny_pure fun Q' hQ' => hQ' _ es1 t2 _ k1 ho1 (T1 es1 t2 (.refl _) f2 l2 q2)
    have fin : ∀ {r : Option Bool} {s' : Shared}, (∀ Q' : Option Bool → Shared → Prop, (∀ h' es' t' ep', Heap.SameBut a s.heap h' → h'.get? a = some (setObj es' ep' t') → TSet w es' t' (ts ++ [x]) → Q' (some true) { s with heap := h', toks := s.toks + 1 }) → Q' r s') →
        wpAny (model P w) A (match r with | some added => pure added | none => setAddHashedIn a (.str x u) ((PySem.strKind P w).hash x) 99999) Q E s' := fun {r s'} hr' =>
      hr' (fun r s' => wpAny (model P w) A (match r with | some added => pure added | none => setAddHashedIn a (.str x u) ((PySem.strKind P w).hash x) 99999) Q E s') fun h' es' t' ep' k o T' => wpAny_pure (h h' es' t' ep' _ k o T')
    cases hpl : t1.plain with
    | true =>
      refine wpAny_bind ?_
      rw [hashByValue_scannable 8 rfl]
      refine wpAny_pure ?_
      exact wpAny_mono (tail { t1 with plain := false } (SetTable.fits_plain_off hfits) hled rfl) (fun r s' hr' => fin hr') fun zz1 zz2 e => e
    | false =>
      refine wpAny_bind ?_
      refine wpAny_pure ?_
      exact wpAny_mono (tail t1 hfits hled hpl) (fun r s' hr' => fin hr') fun zz1 zz2 e => e
end
end Mine
end
section
open PySem PySem.W PySem.Calls PyProof.Rows PyProof.V
namespace Mine

theorem strAt {vs : List Value} {xs : List Str} (h : StrsAre vs xs) : ∀ {i : Nat} {v : Value}, vs[i]? = some v → ∃ t x, v = .str x t ∧ xs[i]? = some x := by
  induction h with
  | nil => intro i v h; simp at h
  | cons x t h ih =>
    intro i v hv
    cases i with
    | zero => simp at hv; exact ⟨t, x, hv.symm, rfl⟩
    | succ i => simp only [List.getElem?_cons_succ] at hv ⊢; exact ih hv
theorem strsLen {vs : List Value} {xs : List Str} (h : StrsAre vs xs) : vs.length = xs.length := by
  induction h with
  | nil => rfl
  | cons x t h ih => simp [ih]

section
variable {w : World} {A : Around} {E : Value → Shared → Prop} {s : Shared} {R : Result → Shared → Prop}

theorem setLoop {S I l : Addr} {vs : List Value} {xs : List Str} (hS : StrsAre vs xs) (h1 : S ≠ I) (h2 : S ≠ l) (h3 : I ≠ l) (hh : A.handled = none) (hz : xs.length ≤ 100) : ∀ (k i : Nat) (s : Shared) (es : Array (Int × Value)) (t : SetTable) (ep : Nat), vs.length - i = k → i ≤ vs.length →
      s.heap.get? S = some (setObj es ep t) → TSet w es t (xs.take i) → s.heap.IsListIter I l i → s.heap.IsList l vs.toArray →
      (∀ h' tk es' t' ep', (∀ b o, b ≠ S → b ≠ I → s.heap.get? b = some o → h'.get? b = some o) → h'.get? S = some (setObj es' ep' t') → TSet w es' t' xs → R (.ok (.ret .none)) { s with heap := h', toks := tk }) →
      codeAny (model P w) A (.builtin "set.update.loop" ⟨[.ref S, .ref I], []⟩) R s := by
  intro k
  induction k with
  | zero =>
    intro i s es t ep hk hi ho T it hl hR
    have hin : i = vs.length := by lia
    subst hin
    refine codeAny_builtin PyProof.Rows.F.entry_set_update_loop ?_
    rw [Around.under_plainId PyProof.Rows.F.plain_set_update_loop _]
    show wpAny _ A.in1 (pyNext (.ref I) >>= _) _ _ s
    refine wpAny_bind (wpAny_pyNext_list_end (A := A.in1) hh it hl (by simp) fun h' k' => ?_)
    show wpAny _ A.in1 (ret Value.none) _ _ _
    rw [strsLen hS, List.take_length] at T
    exact wpAny_pure (hR h' s.toks es t ep (fun b o zz1 hb e => k' b o hb e) (k' S _ h1 ho) T)
  | succ k ih =>
    intro i s es t ep hk hi ho T it hl hR
    have hlt : i < vs.length := by lia
    refine codeAny_builtin PyProof.Rows.F.entry_set_update_loop ?_
    rw [Around.under_plainId PyProof.Rows.F.plain_set_update_loop _]
    show wpAny _ A.in1 (pyNext (.ref I) >>= _) _ _ s
    have hv : vs[i]? = some vs[i] := List.getElem?_eq_getElem hlt
    obtain ⟨tk, x, hx, hxi⟩ := strAt hS hv
    refine wpAny_bind (wpAny_pyNext_list_item it hl (x := .str x tk) (by rw [← hx]; simpa using hv) fun h' it' k' => ?_)
    have ho' := (k'.2 S h1).trans ho
    show wpAny _ A.in1 (holding [Value.str x tk] (setAdd S (.str x tk)) >>= _) _ _ _
    have hxl : xs.take (i + 1) = xs.take i ++ [x] := by rw [List.take_add_one, hxi]; rfl
    refine wpAny_bind (wpAny_holding (setAdd_txt (s := { s with heap := h' }) ho' T (by rw [List.length_take]; lia) fun h2' es' t' ep' r k2 o2 T2 => ?_))
    rw [← hxl] at T2
    refine wpAny_pure ⟨plainId_quiet PyProof.Rows.F.plain_set_update_loop _, ih (i + 1) _ es' t' ep' (by lia) hlt o2 T2 (it'.at fun o e => (k2.2 I (Ne.symm h1)).trans e) (hl.at fun o e => (k2.2 l (Ne.symm h2)).trans ((k'.2 l (Ne.symm h3)).trans e)) fun h3' tk3 es3 t3 ep3 k3 o3 T3 => ?_⟩
    exact hR h3' tk3 es3 t3 ep3 (fun b o hb1 hb2 e => k3 b o hb1 hb2 ((k2.2 b hb1).trans ((k'.2 b hb2).trans e))) o3 T3

theorem code_set_new_led (a : Value) {Q₁ : Value → Shared → Prop}
    (h : Q₁ (.ref s.heap.objs.size) { s with heap := s.heap.push (setObj #[] 0 (.fresh 0 0 (!txtOrd w))) }) :
    codeAny (model P w) A (.call (.builtin "set.__new__") ⟨[.type "set", a], []⟩) (wants Q₁ E) s := by
  refine codeAny_of_tree ?_
  show wpAny _ A.in1 (do checkBuiltinCall "set.__new__" ⟨[.type "set", a], []⟩; again (.builtin "set.__new__" ⟨[.type "set", a], []⟩)) _ _ s
  refine wpAny_bind (wpAny_of_eq (PySem.F.newCall_set_1 a) (wpAny_pure ⟨plainId_quiet PySem.F.plain_set_new _, codeAny_builtin PySem.F.entry_set_new ?_⟩))
  rw [Around.under_plainId PySem.F.plain_set_new _]
  unfold Builtin.«set.__new__» Builtin.Frozenset.newClass
  have hsub := sub_set_self
  obtain ⟨hp, g, d, tk, os⟩ := s
  dsimp only
  wp_walk
  refine wpAny_askSetting (wpAny_pure ?_)
  dsimp only
  simp only [newObj]
  refine wpAny_bind (wpAny_alloc (wpAny_pure ?_))
  exact wpAny_pure h

theorem tset_nil : TSet w #[] (.fresh 0 0 (!txtOrd w)) [] := ⟨fun e he => by simp at he, by simp, fun x => by simp, by rfl, rfl, fun h => by simp at h⟩

set_option maxHeartbeats 3200000 in
theorem call_set_txt {l : Addr} {vs : List Value} {xs : List Str} {Q : Value → Shared → Prop}
    (hh : A.handled = none) (hl : s.heap.IsList l vs.toArray) (hi : StrsAre vs xs) (hb : xs.length ≤ 100)
    (h : ∀ (h' : Heap) (tk : Nat) es t ep, h'.get? s.heap.objs.size = some (setObj es ep t) → TSet w es t xs →
      (∀ b o, s.heap.get? b = some o → h'.get? b = some o) → Q (.ref s.heap.objs.size) { s with heap := h', toks := tk }) :
    wpAny (model P w) A (call (.type "set") [.ref l]) Q E s := by
  obtain ⟨c, tl, hmro⟩ := F.called_set.mro
  have hmade := F.called_set.made
  have hsub := F.called_set.sub
  refine wpAny_call (codeAny_of_tree ?_)
  show wpAny _ _ (callAny (.type "set") _) _ _ _
  refine wpAny_pure ⟨Code.quiet_builtin _ (by decide +kernel), codeAny_builtin F.entry_type_call ?_⟩
  rw [Around.under_plain (weight_type_call_type "set" [.ref l] []) rfl]
  have h1 := F.called_set.notType
  have h2 := F.called_set.canCreate
  have hct := PySem.F.typeCall_set_1 (.ref l)
  repeat (any_goals (first | assumption | wp_step))

  refine codeAny_mono (code_set_new_led (.ref l) (E := E) (Q₁ := fun obj s₁ => obj = .ref s.heap.objs.size ∧ s₁ = { s with heap := s.heap.push (setObj #[] 0 (.fresh 0 0 (!txtOrd w))) }) ⟨rfl, rfl⟩) fun r s₁ hr => ?_
  cases r with
  | error e => exact hr
  | ok fl =>
    cases fl with
    | ret obj =>
      obtain ⟨rfl, rfl⟩ := hr
      have hS : (s.heap.push (setObj #[] 0 (.fresh 0 0 (!txtOrd w)))).get? s.heap.objs.size = some (setObj #[] 0 (.fresh 0 0 (!txtOrd w))) := Heap.get?_push_size _ rfl
      have hT : Shared.TypeIs { s with heap := s.heap.push (setObj #[] 0 (.fresh 0 0 (!txtOrd w))) } (.ref s.heap.objs.size) "set" := ⟨_, hS, rfl⟩
      have hli := F.called_set.init.lookup
      have hbi := F.called_set.init.bind (.ref s.heap.objs.size)
      repeat (any_goals (first | assumption | wp_step))

      refine codeAny_mono (codeAny_call_builtin (R := wants (fun r s₂ => r = .none ∧ ∃ h' tk es t ep, s₂ = { s with heap := h', toks := tk } ∧ h'.get? s.heap.objs.size = some (setObj es ep t) ∧ TSet w es t xs ∧
          (∀ b o, s.heap.get? b = some o → h'.get? b = some o)) E) F.called_set.init.plain F.entry_set_init (PySem.check_set_init_1 hT ?_)) fun r₂ s₂ hr₂ => ?_
      · obtain ⟨ol, hol, hcl, nl, hdl⟩ := hl
        obtain ⟨ocls, odict, odata, oslots⟩ := ol
        simp only at hcl hdl
        subst hcl; subst hdl
        have hol' : (s.heap.push (setObj #[] 0 (.fresh 0 0 (!txtOrd w)))).get? l = some { cls := .type "list", dict := odict, data := .seq vs.toArray nl, slots := oslots } := Heap.get?_push_of_some _ hol
        have hsls := PySem.F.sub_list_set
        have hslf := PySem.F.sub_list_frozenset
        have hne : (Value.type "list" == Value.type "dict") = false := by decide
        have hl1 : (s.heap.push (setObj #[] 0 (.fresh 0 0 (!txtOrd w)))).IsList l vs.toArray := ⟨_, hol', rfl, nl, rfl⟩
        unfold Builtin.«set.__init__» noKeywords Builtin.Frozenset.updateFrom
        generalize hPI : pyIter = PI
        wp_walk
        subst hPI

        refine wpAny_pyIter_list hl1 ?_
        refine wpAny_bind (wpAny_runValue ?_)
        have hlS : l < s.heap.objs.size := Heap.lt_size hol
        have hh3 : A.in1.in1.in1.handled = none := by simp [hh]
        have hsz : (s.heap.push (setObj #[] 0 (.fresh 0 0 (!txtOrd w)))).objs.size = s.heap.objs.size + 1 := Heap.size_push ..
        refine setLoop (R := _) hi (Nat.ne_of_lt (by rw [hsz]; exact Nat.lt_succ_self _)) (Nat.ne_of_gt hlS) (Nat.ne_of_gt (by rw [hsz]; exact Nat.lt_succ_of_lt hlS)) (by simp [hh]) hb vs.length 0 _ #[] (.fresh 0 0 (!txtOrd w)) 0 (by lia) (Nat.zero_le _) (Heap.get?_push_of_some _ hS) tset_nil
          ⟨_, Heap.get?_push_size _ rfl, rfl, rfl⟩ (hl1.push _) fun h' tk' es' t' ep' k' o' T' => ?_
        show wpAny _ _ _ _ _ _
        refine wpAny_pure ?_
        show wpAny _ _ (ret Value.none) _ _ _
        refine wpAny_pure ⟨rfl, h', tk', es', t', ep', rfl, o', T', fun b o e => ?_⟩
        have hb1 := Heap.lt_size e
        exact k' b o (Nat.ne_of_lt hb1) (Nat.ne_of_lt (by rw [hsz]; exact Nat.lt_succ_of_lt hb1)) (Heap.get?_push_of_some _ (Heap.get?_push_of_some _ e))

      · cases r₂ with
        | error e => exact hr₂
        | ok fl₂ =>
          cases fl₂ with
          | ret r =>
            obtain ⟨rfl, h', tk, es, t, ep, rfl, o', T', hk'⟩ := hr₂
            repeat (any_goals (first | assumption | wp_step))
            exact h _ _ _ _ _ o' T' hk'
          | _ => exact hr₂.elim
    | _ => exact hr.elim
end
end Mine
end
section
open PySem PySem.W PySem.Calls PyProof.Rows PyProof.V
namespace Mine

theorem IterAt.keepBut {w : World} {h h' : Heap} {I D S : Addr} {es : Array (Int × Value)} {ep : Nat} {t : SetTable} {vs : List Value} {i : Nat} (x : IterAt w h I D es ep t vs i) {o : Obj} (hS : h.get? S = some o) (hc : o.cls = .type "list")
    (k : ∀ b o, b ≠ S → h.get? b = some o → h'.get? b = some o) : IterAt w h' I D es ep t vs i := by
  obtain ⟨so, ft, ln, first, hI, go⟩ := x
  have ne : ∀ {b : Addr} {o' : Obj} {c : String}, h.get? b = some o' → o'.cls = .type c → c ≠ "list" → b ≠ S := fun {b o' c} e hc' hn q => by
    rw [q, hS] at e
    cases e
    rw [hc] at hc'
    exact hn (by injection hc' with e; exact e.symm)
  refine ⟨k _ _ (ne so rfl (by decide)) so, ft, ln, first, k _ _ (ne hI rfl (by decide)) hI, ?_⟩
  cases go with
  | text h1 h2 => exact .text h1 h2
  | drawn T ps h1 hT h3 h4 => exact .drawn T ps h1 (k _ _ (ne hT rfl (by decide)) hT) h3 h4
  | places h1 h2 h3 h4 h5 => exact .places h1 h2 h3 h4 h5

section
variable {prog : Program} {w : World} {A : Around} {E : Value → Shared → Prop} {s : Shared} {R : Result → Shared → Prop} {D : Addr} {es : Array (Int × Value)} {ep : Nat} {t : SetTable}

theorem setItLoop {S I : Addr} {vs : List Value} (hSI : S ≠ I) (hh : A.handled = none) (hz : vs.length ≤ 1000) (res : Value) : ∀ (k i : Nat) (s : Shared) (c : Nat), vs.length - i = k → i ≤ vs.length →
      IterAt w s.heap I D es ep t vs i → s.heap.get? S = some (listOf (vs.take i).toArray c) →
      (∀ h' c', (∀ b o, b ≠ S → b ≠ I → s.heap.get? b = some o → h'.get? b = some o) → h'.get? S = some (listOf vs.toArray c') → R (.ok (.ret res)) { s with heap := h' }) →
      codeAny (model prog w) A (.builtin "list.extend.loop" ⟨[.ref S, .ref I, res], []⟩) R s := by
  intro k
  induction k with
  | zero =>
    intro i s c hk hi it hS hR
    have hin : i = vs.length := by lia
    subst hin
    refine codeAny_builtin F.entry_extend_loop ?_
    rw [Around.under_plainId F.plain_extend_loop _]
    show wpAny _ A.in1 (pyNext (.ref I) >>= _) _ _ s
    refine wpAny_bind (setit_end (A := A.in1) hh it rfl fun h' k' => ?_)
    rw [List.take_length] at hS
    exact wpAny_pure (hR h' c (fun b o zz1 hb e => k' b o hb e) (k' S _ hSI hS))
  | succ k ih =>
    intro i s c hk hi it hS hR
    have hlt : i < vs.length := by lia
    refine codeAny_builtin F.entry_extend_loop ?_
    rw [Around.under_plainId F.plain_extend_loop _]
    show wpAny _ A.in1 (pyNext (.ref I) >>= _) _ _ s
    refine wpAny_bind (setit_next it (List.getElem?_eq_getElem hlt) fun h1 it1 k1 => ?_)
    have hS1 := (k1.2 S hSI).trans hS
    show wpAny _ A.in1 (updateSeq S (·.push vs[i]) >>= _) _ _ _
    refine wpAny_bind ?_
    have hup := get?_update_seq hS1 (·.push vs[i])
    rw [sz_push, ← List.take_succ_eq_append_getElem hlt] at hup
    have kS : Heap.SameBut S h1 (h1.update S (Obj.mapSeq (·.push vs[i]))) := Heap.SameBut.update ..
    refine wpAny_updateSeq hS1 rfl (wpAny_pure ⟨plainId_quiet F.plain_extend_loop _, ih (i + 1) _ _ (by lia) hlt (it1.keepBut hS1 rfl fun b o hb e => (kS.2 b hb).trans e) hup fun h' c' k' o' => ?_⟩)
      (by rw [List.size_toArray, List.length_take, sizeLine_eq]; lia) (by show (_ : Array Value).size ≤ sizeLine + 1; rw [Array.size_push, List.size_toArray, List.length_take, sizeLine_eq]; lia)
    exact hR h' c' (fun b o h1 h2 e => k' b o h1 h2 ((kS.2 b h1).trans ((k1.2 b h2).trans e))) o'

theorem setCollect {Q : List Value → Shared → Prop} (hh : A.handled = none) (so : s.heap.get? D = some (setObj es ep t)) (ft : t.fits es.size = true) (ok : SetOk w es t) (hz : es.size ≤ 1000)
    (hQ : ∀ h' d vs, vs.Perm (es.toList.map (·.2)) → (∀ b o, s.heap.get? b = some o → h'.get? b = some o) → Q vs { s with heap := h', drawn := d }) : wpAny (model prog w) A (collect (.ref D)) Q E s := by
  have hlD := Heap.lt_size so
  generalize hSe : s.heap.objs.size = S at hlD
  unfold collect
  refine wpAny_bind (wpAny_runValue (codeAny_builtin F.entry_proto_collect ?_))
  rw [Around.under_plainId F.plain_proto_collect _]
  show wpAny _ A.in1 (newList [] >>= fun l => again (.builtin "list.__iadd__" ⟨[l, .ref D], []⟩)) _ _ s
  refine wpAny_bind (wpAny_newObj_type ?_)
  rw [hSe]
  refine wpAny_pure ⟨plainId_quiet F.plain_list_iadd _, codeAny_builtin F.entry_list_iadd ?_⟩
  rw [Around.under_plainId F.plain_list_iadd _]
  have hS₁ : (s.heap.push { cls := .type "list", data := .seq ([] : List Value).toArray }).get? S = some (listOf #[] 0) := by rw [← hSe]; exact Heap.get?_push_size _ rfl
  have k1 : ∀ b o, s.heap.get? b = some o → (s.heap.push { cls := .type "list", data := .seq ([] : List Value).toArray }).get? b = some o := fun b o q => Heap.get?_push_of_some _ q
  generalize s.heap.push { cls := .type "list", data := .seq ([] : List Value).toArray } = h1 at hS₁ k1 ⊢
  have so1 := k1 _ _ so
  show wpAny _ A.in1 (Builtin.List.listExtendWith (.ref S) (.ref D) (.ref S)) _ _ _
  unfold Builtin.List.listExtendWith
  have hT : Shared.TypeIs { s with heap := h1 } (.ref D) "set" := ⟨_, so1, rfl⟩
  refine wpAny_bind (wpAny_typeOf hT ?_)
  have e1 : Builtin.List.listSameRef (.ref S) (.ref D) = false := by simp only [Builtin.List.listSameRef, beq_eq_false_iff_ne]; exact Nat.ne_of_gt hlD
  have e2 : (Value.type "set" == Value.type "list") = false := by decide
  have e3 : (Value.type "set" == Value.type "tuple") = false := by decide
  simp only [e1, e2, e3, Bool.or_false, Bool.false_eq_true, if_false]
  refine wpAny_bind (set_iter (s := { s with heap := h1 }) so1 ft ok hz fun h2 d I vs X hI hp k2 => ?_)
  have hS₂ := k2 _ _ hS₁
  have so2 := k2 _ _ so1
  have hT2 : Shared.TypeIs { s with heap := h2, drawn := d } (.ref D) "set" := ⟨_, so2, rfl⟩
  refine wpAny_bind (wpAny_holding ?_)
  unfold Builtin.List.listLengthHint
  refine wpAny_bind (wpAny_specialOf hT2 F.slot_set_len.lookup ?_)
  (generalize hid : ("set.__len__" : String) = id0; (fail_if_success (clear hid id0)); wp_delta; rw [show splitId id0 = some ("set", "__len__") from by subst hid; decide +kernel]; subst hid)
  refine wpAny_bind (wpAny_isInstance (b := true) hT2 sub_set_self ?_)
  show wpAny _ A.in1 (typeOf (.ref D) >>= _) _ _ _
  refine wpAny_bind (wpAny_typeOf hT2 ?_)
  refine wpAny_pure ?_
  show wpAny _ A.in1 (rule "list.extend.makes-room" >>= fun zz1 => Builtin.List.listTouch (.ref S) >>= fun zz1 =>
    again (.builtin "list.extend.loop" ⟨[.ref S, .ref I, .ref S], []⟩)) _ _ _
  refine wpAny_bind (wpAny_rule ?_)
  refine wpAny_bind ?_
  show wpAny _ A.in1 (updateSeq S (·.push .none) >>= fun zz1 => updateSeq S (·.pop)) _ _ _
  refine wpAny_bind (wpAny_updateSeq hS₂ rfl ?_)
  have hS₃ := get?_update_seq hS₂ (·.push Value.none)
  refine wpAny_updateSeq hS₃ rfl ?_
  have hS₄ := get?_update_seq hS₃ (·.pop)
  have kS : Heap.SameBut S h2 ((h2.update S (Obj.mapSeq (·.push Value.none))).update S (Obj.mapSeq (·.pop))) := (Heap.SameBut.update ..).trans (Heap.SameBut.update ..)
  generalize (h2.update S (Obj.mapSeq (·.push Value.none))).update S (Obj.mapSeq (·.pop)) = h3 at hS₄ kS ⊢
  have X3 := X.keepBut hS₂ rfl fun b o hb e => (kS.2 b hb).trans e
  have hIS : S ≠ I := fun e => by
    rw [← e, hS₁] at hI; cases hI
  have hvl : vs.length ≤ 1000 := by rw [hp.length_eq, List.length_map, Array.length_toList]; exact hz
  refine wpAny_pure ⟨plainId_quiet F.plain_extend_loop _, setItLoop (A := A) hIS hh hvl (.ref S) vs.length 0 _ _ (by lia) (Nat.zero_le _) X3 hS₄ fun h4 c4 k4 o4 => ?_⟩
  show wpAny _ A (load S >>= _) _ _ _
  refine wpAny_bind (wpAny_load o4 (wpAny_pure ?_))
  refine hQ h4 d vs hp fun b o e => ?_
  have hbS : b ≠ S := by rw [← hSe]; exact Nat.ne_of_lt (Heap.lt_size e)
  have hbI : b ≠ I := fun q => by rw [← q] at hI; have := k1 _ _ e; rw [hI] at this; cases this
  exact k4 b o hbS hbI ((kS.2 b hbS).trans (k2 _ _ (k1 _ _ e)))

theorem sortedSet {ts : List Str} {Q : Value → Shared → Prop} {w : World} {es : Array (Int × Value)} {t : SetTable} {ep : Nat} (hh : A.handled = none) (so : s.heap.get? D = some (setObj es ep t)) (T : TSet w es t ts) (hz : ts.length < 60)
    (hQ : ∀ h' d a vs ss n, s.heap.get? a = none → h'.get? a = some (listOf vs.toArray n) → StrsAre vs ss → ss.Nodup → (∀ x, x ∈ ss ↔ x ∈ ts) → sortedS ss = true → (∀ b o, s.heap.get? b = some o → h'.get? b = some o) → Q (.ref a) { s with heap := h', drawn := d }) :
    wpAny (model P w) A (call (.builtin "sorted") [.ref D]) Q E s := by
  have hsz := T.size_le
  refine Calls.call_function_entry kind_sorted plain_sorted entry_sorted (args_sorted1 _) ?_
  unfold Builtin.«sorted»
  refine wpAny_bind (m := checkCount "sorted" 1 1 _) (wpAny_pure ?_)
  refine wpAny_bind (setCollect (A := A.in1) hh so T.ft T.ok (by lia) fun h1 d vs hp k1 => ?_)
  have hS : StrsAre vs (vs.map strOf) := strsAre_map vs fun v hv => by
    obtain ⟨e, he, rfl⟩ := List.mem_map.mp (hp.mem_iff.mp hv)
    obtain ⟨⟨k, hk, _⟩, _⟩ := T.el e he
    obtain ⟨tk, e1⟩ := strKey hk
    exact ⟨_, _, e1⟩
  have hpm := hp.map strOf
  rw [List.map_map] at hpm
  have hvl : vs.length < 64 := by rw [hp.length_eq, List.length_map, Array.length_toList]; lia
  refine wpAny_bind (wpAny_newList ?_)
  have hoL : (h1.push (seqObj "list" vs.toArray 0)).get? h1.objs.size = some (seqObj "list" vs.toArray 0) := Heap.get?_push_size _ rfl
  refine wpAny_bind (wpAny_holding (wpAny_call_entry slot_list_sort ⟨_, hoL, rfl⟩ entry_list_sort (list_sort_treeK strKind_oneLt hoL hS.keysOf (fun v₁ v₂ rest e => keyKind_strs (by rw [← e]; exact hS)) hvl fun st' a1 a2 => ⟨_, rfl, ?_⟩) (args_list_sort _)))
  obtain ⟨ss', b1, b2, b3⟩ := sorted_out_str hS a1 a2
  obtain ⟨e, he⟩ := sortedHeap_at (vs := vs) (out := (arrOf st').map (·.2)) hoL
  have hold : ∀ b o, h1.get? b = some o → (sortedHeap (h1.push (seqObj "list" vs.toArray 0)) h1.objs.size vs ((arrOf st').map (·.2))).get? b = some o := fun b o q => by
    have hlt := Heap.lt_size q
    rw [sortedHeap_old (Nat.ne_of_lt hlt) (by rw [Heap.size_push]; exact Nat.lt_succ_of_lt hlt)]
    exact Heap.get?_push_of_some _ q
  have hnew : s.heap.get? h1.objs.size = none := by
    cases q : s.heap.get? h1.objs.size with
    | none => rfl
    | some o => exact absurd (Heap.lt_size (k1 _ _ q)) (Nat.lt_irrefl _)
  refine wpAny_pure ⟨_, rfl, hQ _ d h1.objs.size ((arrOf st').map (·.2)).toList ss' e hnew (by rw [Array.toArray_toList]; exact he) b1 ?_ (fun x => ?_) b3 fun b o q => hold b o (k1 b o q)⟩
  · exact b2.nodup_iff.mpr (hpm.nodup_iff.mpr T.nd)
  · rw [b2.mem_iff, hpm.mem_iff]; exact T.mem x
end

theorem uniq_inc {α : Type} [LT α] (irr : ∀ x : α, ¬ x < x) (tr : ∀ {x y z : α}, x < y → y < z → x < z) : ∀ {l₁ l₂ : List α}, l₁.Pairwise (· < ·) → l₂.Pairwise (· < ·) → (∀ x, x ∈ l₁ ↔ x ∈ l₂) → l₁ = l₂
  | [], [], _, _, _ => rfl
  | [], b :: l₂, _, _, h => by have := (h b).mpr (.head _); cases this
  | a :: l₁, [], _, _, h => by have := (h a).mp (.head _); cases this
  | a :: l₁, b :: l₂, h1, h2, h => by
    have p1 := List.pairwise_cons.mp h1
    have p2 := List.pairwise_cons.mp h2
    have hab : a = b := by
      rcases List.mem_cons.mp ((h a).mp (.head _)) with e | e
      · exact e
      · rcases List.mem_cons.mp ((h b).mpr (.head _)) with e' | e'
        · exact e'.symm
        · exact absurd (tr (p2.1 a e) (p1.1 b e')) (irr _)
    subst hab
    rw [uniq_inc irr tr p1.2 p2.2 fun x => ⟨fun hx => ?_, fun hx => ?_⟩]
    · rcases List.mem_cons.mp ((h x).mp (.tail _ hx)) with e | e
      · subst e; exact absurd (p1.1 x hx) (irr _)
      · exact e
    · rcases List.mem_cons.mp ((h x).mpr (.tail _ hx)) with e | e
      · subst e; exact absurd (p2.1 x hx) (irr _)
      · exact e
theorem lt_of_not {a b : List Nat} (h : ¬ b < a) (hne : a ≠ b) : a < b := by
  by_cases q : a < b
  · exact q
  · exact absurd (List.le_antisymm (List.not_lt.mp h) (List.not_lt.mp q)) hne
theorem inc_of_sorted : ∀ (l : List Str), sortedS l = true → l.Nodup → (l.map fun x => x.cps.toList).Pairwise (· < ·)
  | [], _, _ => .nil
  | [p], _, _ => by simp
  | p :: x :: r, h, hn => by
    have h' : (!PySem.Spec.ltCps x.cps.toList p.cps.toList && risingS x r) = true := h
    rw [Bool.and_eq_true, Bool.not_eq_true', ltCps_eq, decide_eq_false_iff_not] at h'
    have hn' := List.nodup_cons.mp hn
    have ih := inc_of_sorted (x :: r) h'.2 hn'.2
    have hlt : p.cps.toList < x.cps.toList := lt_of_not h'.1 fun e => hn'.1 (by rw [show p = x from Str.ext' (by simpa using e)]; exact .head _)
    rw [List.map_cons, List.pairwise_cons]
    refine ⟨fun z hz => ?_, ih⟩
    rw [List.map_cons] at hz ih
    rcases List.mem_cons.mp hz with rfl | hz
    · exact hlt
    · exact List.lt_trans hlt ((List.pairwise_cons.mp ih).1 z hz)

section
variable {C : Cx} {X Xi Φ Φ' : Led} {ρ ρ' : Loc} {s s' : Shared} {x y : Str} {pos cp c2 np n2 : Pos}
theorem strsIn {Φ : Led} : ∀ {vs : List Value} {xs : List (List Nat)}, DatAll Φ vs (xs.map DS) → StrsAre vs (xs.map T)
  | _, [], .nil => .nil
  | _, x :: xs, .cons h r => by
    cases h
    exact .cons _ _ (strsIn r)
theorem strsOut {Φ : Led} {vs : List Value} {ss : List Str} (h : StrsAre vs ss) : DatAll Φ vs (ss.map fun x => DS x.cps.toList) := by
  induction h with
  | nil => exact .nil
  | cons x t h ih => exact .cons (.str _ _) ih

theorem EvJ.sortedSetE {ts r : List (List Nat)} {e : Expr} (he : EvJ C ρ e (.dat (.list (ts.map DS)))) (hh : C.A.handled = none) (hz : ts.length < 60) (hr : r.Pairwise (· < ·)) (hm : ∀ x, x ∈ r ↔ x ∈ ts)
    (hk : C.env.kindOf "sorted" = some .globalImplicit := by rfl) (hk2 : C.env.kindOf "set" = some .globalImplicit := by rfl)
    (hs : starEach [.Call (.Name "set" n2) [e] [] c2] C.env = [(false, eval (.Call (.Name "set" n2) [e] [] c2) C.env)] := by rfl) (hs2 : starEach [e] C.env = [(false, eval e C.env)] := by rfl) :
    EvJ C ρ (.Call (.Name "sorted" np) [.Call (.Name "set" n2) [e] [] c2] [] cp) (.dat (.list (r.map DS))) := fun X Φ f s H => by
  refine Call_Name1 (biGo H (by decide +kernel) (by rfl) ?_ hk) hs
  refine Calls.callWith_builtin rfl (Calls.evalArgs_plain (Calls.spliced_cons ?_))
  refine Call_Name1 (biGo H (by decide +kernel) (by rfl) ?_ hk2) hs2
  refine PySem.callWith_type1 (wpAny_mono (he X Φ f s H) (fun v s1 ⟨Φ1, g1, H1, i1⟩ => ?_) fun zz1 zz2 f => f)
  obtain ⟨l, vs, n, rfl, hml, hD⟩ := DatIn.listInv i1
  refine call_set_txt (xs := ts.map T) hh ⟨_, H1.led _ hml, rfl, _, rfl⟩ (strsIn hD) (by simp; lia) fun h2 tk es t ep so TS k2 => Calls.spliced_nil ?_
  refine sortedSet (s := { s1 with heap := h2, toks := tk }) hh so TS (by simp; lia) fun h3 d a us ss n3 hn ha hS hnd hmem hsort k3 => ?_
  have e1 : ss.map (fun x => x.cps.toList) = r := by
    refine uniq_inc (fun x => List.lt_irrefl x) (fun h1 h2 => List.lt_trans h1 h2) (inc_of_sorted ss hsort hnd) hr fun x => ?_
    rw [hm x]
    constructor
    · intro hx
      obtain ⟨y, hy, rfl⟩ := List.mem_map.mp hx
      obtain ⟨z, hz, e⟩ := List.mem_map.mp ((hmem y).mp hy)
      rw [← e]; exact hz
    · intro hx
      exact List.mem_map.mpr ⟨T x, (hmem _).mpr (List.mem_map.mpr ⟨x, hx, rfl⟩), rfl⟩
  have hdat : DatAll Φ1 us (r.map DS) := by
    have := strsOut (Φ := Φ1) hS
    rw [← e1, List.map_map]
    exact this
  have kk : ∀ b o, s1.heap.get? b = some o → h3.get? b = some o := fun b o e => k3 b o (k2 b o e)
  have hn1 : s1.heap.get? a = none := by
    cases q : s1.heap.get? a with
    | none => rfl
    | some o => have := k2 _ _ q; rw [hn] at this; cases this
  exact ⟨(a, listOf us.toArray n3) :: Φ1, fun p hp => .tail _ (g1 p hp), AtM.grow H1 (s' := { s1 with heap := h3, drawn := d, toks := tk }) kk (fun p hp => .tail _ hp) (fun p hp => by
    rcases List.mem_cons.mp hp with rfl | hp
    · exact .inr ⟨ha, hn1, _, _, rfl⟩
    · exact .inl hp) rfl rfl, .list (.head _) (hdat.mono fun p hp => .tail _ hp)⟩
end
end Mine
end
section
open PySem PySem.W PySem.Calls PyProof.Rows PyProof.V
namespace Mine

noncomputable def fig (n : Int) : Nat := (n.fmod 24).toNat
noncomputable def fig2 (n : Int) : Nat := ((n.fdiv 24).fmod 24).toNat
noncomputable def frontOf (n : Int) : Int := (n.fdiv 576).fmod 7 - 4
noncomputable def pieces2 (n : Int) : List (List Nat × Way) := [pieceL (fig n), pieceL (fig2 n)]
noncomputable def piecesOf (l : List Int) : List (List Nat × Way) := l.flatMap pieces2
noncomputable def frontsOf (l : List Int) : Nat := l.foldl (fun f n => max f (frontOf n).toNat) 0
noncomputable def zeroW : Way := ⟨0, 0, 0, 0⟩
noncomputable def prodW (ps : List (List Nat × Way)) : Way := ps.foldr (fun p w => p.2.times w) zeroW
noncomputable def wayOf (l : List Int) : Way := (⟨frontsOf l, 0, 0, 0⟩ : Way).times (prodW (piecesOf l))
noncomputable def spellP : List (List Nat × Way) → List (List Nat)
  | [] => []
  | p :: ps => (if p.1 = [] then [46] else p.1) :: ps.map (·.1)
noncomputable def spellOf (l : List Int) : List Nat := List.replicate (frontsOf l) 47 ++ joinL 47 (spellP (piecesOf l))
noncomputable def picked (ns : List Int) (many turn : Nat) : List Int :=
  if pickD (ns.take 18) (some (turn : Int)) none (some (many : Int)) = [] then [if turn = 0 then 64 else 99] else pickD (ns.take 18) (some (turn : Int)) none (some (many : Int))
noncomputable def manyOf (ns : List Int) : Nat := if 3 < ns.length then 3 else 2

noncomputable def Way.In (w : Way) (n : Nat) : Prop := w.root ≤ 2 ∧ w.up ≤ n ∧ w.cnt ≤ n ∧ w.val < 16 ^ w.cnt
theorem Way.In.ok {w : Way} {n : Nat} (h : w.In n) (hn : n ≤ 500) : w.Ok := ⟨h.1, by have := h.2.1; lia, by have := h.2.2.1; lia, h.2.2.2⟩
theorem Way.In.mono {w : Way} {n m : Nat} (h : w.In n) (hn : n ≤ m) : w.In m := ⟨h.1, by have := h.2.1; lia, by have := h.2.2.1; lia, h.2.2.2⟩
theorem zero_in (n : Nat) : zeroW.In n := ⟨by simp [zeroW], Nat.zero_le _, Nat.zero_le _, by simp [zeroW]⟩
theorem times_in {a b : Way} {m n : Nat} (ha : a.In m) (hb : b.In n) : (a.times b).In (m + n) := by
  obtain ⟨a1, a2, a3, a4⟩ := ha
  obtain ⟨b1, b2, b3, b4⟩ := hb
  unfold Way.times
  split
  · exact ⟨b1, by lia, by lia, b4⟩
  · split
    · rename_i h1 h2
      refine ⟨a1, by show a.up ≤ _; lia, by show a.cnt - b.up + b.cnt ≤ _; lia, ?_⟩
      show a.val / 16 ^ b.up * 16 ^ b.cnt + b.val < 16 ^ (a.cnt - b.up + b.cnt)
      have h3 : a.val / 16 ^ b.up < 16 ^ (a.cnt - b.up) := by
        rw [Nat.div_lt_iff_lt_mul (Nat.pow_pos (by decide)), ← Nat.pow_add, Nat.sub_add_cancel h2]
        exact a4
      rw [Nat.pow_add]
      calc a.val / 16 ^ b.up * 16 ^ b.cnt + b.val < a.val / 16 ^ b.up * 16 ^ b.cnt + 16 ^ b.cnt := by lia
        _ = (a.val / 16 ^ b.up + 1) * 16 ^ b.cnt := by rw [Nat.add_mul, Nat.one_mul]
        _ ≤ 16 ^ (a.cnt - b.up) * 16 ^ b.cnt := Nat.mul_le_mul_right _ h3
    · split
      · exact ⟨a1, Nat.zero_le _, by show b.cnt ≤ _; lia, b4⟩
      · exact ⟨Nat.zero_le _, by show a.up + b.up - a.cnt ≤ _; lia, by show b.cnt ≤ _; lia, b4⟩
theorem piece_in {f : Nat} (hf : f < 24) : (pieceL f).2.In 1 := by
  unfold pieceL
  split
  · rename_i h; exact ⟨by simp, by simp, by simp, by simpa using h⟩
  · split
    · exact ⟨by simp, by simp, by simp, by simp⟩
    · exact ⟨by simp, by simp, by simp, by simp⟩
theorem fig_lt (n : Int) : fig n < 24 ∧ (fig n : Int) = n.fmod 24 := by
  have h1 := Int.fmod_nonneg_of_pos n (show (0 : Int) < 24 by decide)
  have h2 := Int.fmod_lt_of_pos n (show (0 : Int) < 24 by decide)
  unfold fig
  lia
theorem fig2_lt (n : Int) : fig2 n < 24 ∧ (fig2 n : Int) = (n.fdiv 24).fmod 24 := by
  have h1 := Int.fmod_nonneg_of_pos (n.fdiv 24) (show (0 : Int) < 24 by decide)
  have h2 := Int.fmod_lt_of_pos (n.fdiv 24) (show (0 : Int) < 24 by decide)
  unfold fig2
  lia
theorem front_le (n : Int) : -4 ≤ frontOf n ∧ frontOf n ≤ 2 := by
  have h1 := Int.fmod_nonneg_of_pos (n.fdiv 576) (show (0 : Int) < 7 by decide)
  have h2 := Int.fmod_lt_of_pos (n.fdiv 576) (show (0 : Int) < 7 by decide)
  unfold frontOf
  lia
theorem fronts_le' : ∀ (l : List Int) (f : Nat), f ≤ 2 → l.foldl (fun f n => max f (frontOf n).toNat) f ≤ 2
  | [], f, h => h
  | n :: l, f, h => fronts_le' l _ (by have := front_le n; show max f (frontOf n).toNat ≤ 2; lia)
theorem fronts_le (l : List Int) : frontsOf l ≤ 2 := fronts_le' l 0 (by lia)
theorem piecesOf_len (l : List Int) : (piecesOf l).length = 2 * l.length := by
  unfold piecesOf
  induction l with
  | nil => rfl
  | cons n l ih => rw [List.flatMap_cons, List.length_append, ih, List.length_cons]; simp [pieces2]; lia
theorem piecesOf_mem {l : List Int} {p : List Nat × Way} (h : p ∈ piecesOf l) : ∃ f, f < 24 ∧ p = pieceL f := by
  obtain ⟨n, hn, hp⟩ := List.mem_flatMap.mp h
  simp only [pieces2, List.mem_cons, List.not_mem_nil, or_false] at hp
  rcases hp with rfl | rfl
  · exact ⟨_, (fig_lt n).1, rfl⟩
  · exact ⟨_, (fig2_lt n).1, rfl⟩
theorem prod_in : ∀ {ps : List (List Nat × Way)}, (∀ p ∈ ps, p.2.In 1) → (prodW ps).In ps.length
  | [], _ => zero_in 0
  | p :: ps, h => by
    have := times_in (h p (.head _)) (prod_in fun q hq => h q (.tail _ hq))
    show (p.2.times (prodW ps)).In (ps.length + 1)
    rw [Nat.add_comm]; exact this
theorem pieces_in {l : List Int} : ∀ p ∈ piecesOf l, p.2.In 1 := fun p hp => by
  obtain ⟨f, hf, rfl⟩ := piecesOf_mem hp
  exact piece_in hf
theorem front_in {k : Nat} (hk : k ≤ 2) : (⟨k, 0, 0, 0⟩ : Way).In 0 := ⟨hk, Nat.le_refl _, Nat.le_refl _, by simp⟩
theorem wayOf_in (l : List Int) : (wayOf l).In (2 * l.length) := by
  have := times_in (front_in (fronts_le l)) (prod_in (pieces_in (l := l)))
  rw [piecesOf_len, Nat.zero_add] at this
  exact this

section
variable {C : Cx} {X Φ Φ' : Led} {ρ ρ' : Loc} {s s' : Shared} {x y : Str} {pos sp cp np : Pos} {e o : Expr} {el eh : Option Expr} {lo hi : Option Int}

theorem datInts {Φ : Led} {vs : List Value} {ns : List Int} (h : IntsAre vs ns) : DatAll Φ vs (ns.map .int) := by
  induction h with
  | nil => exact .nil
  | cons n t h ih => exact .cons (.int _ _) ih
theorem AtM.rawList {m : Str → Option Value} {ow : List OwnE} {a : Addr} {vs : List Value} (H : AtM C X Φ ρ m ow s) (hS : C.hB.IsList a vs.toArray) : s.heap.IsList a vs.toArray := by
  obtain ⟨o, ho, r⟩ := hS
  exact ⟨o, H.fr.keep _ _ ho, r⟩
theorem EvJ.lenRaw {a : Addr} {vs : List Value} (hS : C.hB.IsList a vs.toArray) (hx : ρ.lookup x = some (.val (.ref a))) (hz : vs.length ≤ 1000) (hd : (x == ("__debug__" : Str)) = false := by decide) (hc : (x == ("__classdict__" : Str)) = false := by decide)
    (hk : C.env.kindOf "len" = some .globalImplicit := by rfl) : EvJ C ρ (.Call (.Name "len" np) [.Name x sp] [] cp) (.dat (.int vs.length)) := fun X Φ f s H => by
  refine Call_Name1 (biGo H (by decide +kernel) (by rfl) ?_ hk) rfl
  refine Calls.callWith_builtin rfl (Calls.evalArgs_plain (Calls.spliced_cons ?_))
  refine wpAny_mono (EvJ.nameV (pos := sp) hx hd hc X Φ f s H) (fun v1 s1 ⟨Φ1, g1, H1, i1⟩ => Calls.spliced_nil ?_) fun zz1 zz2 f => f
  have e1 : v1 = .ref a := i1
  subst e1
  exact call_len_list (AtM.rawList H1 hS) (by rw [List.size_toArray]; lia) (by rw [List.size_toArray]; exact ⟨Φ1, g1, H1.toks _, .int _ _⟩)
theorem EvJ.sliceRaw {a : Addr} {vs : List Value} {ns : List Int} {sp2 : Pos} (hS : C.hB.IsList a vs.toArray) (hi' : IntsAre vs ns) (hx : ρ.lookup x = some (.val (.ref a))) (hl : PartJ C ρ el lo) (hh : PartJ C ρ eh hi) (hz : vs.length ≤ 1000) (hd : (x == ("__debug__" : Str)) = false := by decide) (hc : (x == ("__classdict__" : Str)) = false := by decide) :
    EvJ C ρ (.Subscript (.Name x sp) (.Slice el eh none sp2) pos) (.dat (.list ((sl lo hi ns).map .int))) := fun X Φ f s H => by
  refine Subscript_ (wpAny_mono (EvJ.nameV (pos := sp) hx hd hc X Φ f s H) (fun v1 s1 ⟨Φ1, g1, H1, i1⟩ => ?_) fun zz1 zz2 f => f)
  have e1 : v1 = .ref a := i1
  subst e1
  refine wpAny_Slice (wpAny_mono (hl.go H1) (fun vl s2 ⟨Φ2, g2, H2, i2⟩ => wpAny_mono (hh.go H2) (fun vu s3 ⟨Φ3, g3, H3, i3⟩ => ?_) fun zz1 zz2 f => f) fun zz1 zz2 f => f)
  refine evalPart_none_step ?_
  obtain ⟨o, ho, hc', n, hd'⟩ := AtM.rawList H3 hS
  have ho2 := Heap.get?_push_of_some { cls := .type "slice", data := .fields #[vl, vu, .none] } ho
  have hL : (s3.heap.push { cls := .type "slice", data := .fields #[vl, vu, .none] }).IsList a vs.toArray := ⟨o, ho2, hc', n, hd'⟩
  refine tail_any hL.typeIs slot_list_getitem.lookup (wpAny_getItem_list_slice hL (.new _ _ _ _) i2 i3 .none (by decide) ?_ (by rw [List.size_toArray, sizeLine_eq]; lia)) rfl
  rw [kms_pick_eq, List.toList_toArray]
  have G := (H3.garbage { cls := .type "slice", data := .fields #[vl, vu, .none] } s3.toks).push (listOf (kms_pick vs lo hi).toArray 0) s3.toks rfl
  have hD := datAll_sl (Φ := Φ3) lo hi (datInts hi')
  have e2 : sl lo hi (ns.map Dat.int) = (sl lo hi ns).map Dat.int := by
    unfold sl
    rw [List.length_map, List.map_take, List.map_drop]
  rw [e2] at hD
  exact ⟨_, fun p hp => .tail _ (g3 p (g2 p (g1 p hp))), G, .list (.head _) (hD.mono fun p hp => .tail _ hp)⟩
end

theorem pickD_map {α β : Type} (f : α → β) (ds : List α) (lo hi st : Option Int) : pickD (ds.map f) lo hi st = (pickD ds lo hi st).map f := by
  unfold pickD
  rw [List.length_map, List.map_filterMap]
  congr 1
  funext i
  rw [List.getElem?_map]

/-! the law's first part -/
noncomputable abbrev lawC (p : FnP) : Cx := fnC "law" (scopeOf "law") 5 p
end Mine
end
section
open PySem PySem.W PySem.Calls PyProof.Rows PyProof.V
namespace Mine

noncomputable def idxs (n t m : Nat) : List Nat := sliceRange (sliceBounds (some (t : Int)) none (some (m : Int)) n).1 (sliceBounds (some (t : Int)) none (some (m : Int)) n).2.1 (sliceBounds (some (t : Int)) none (some (m : Int)) n).2.2
theorem idx3 : ∀ n < 19, ∀ t < 3, (idxs n t 3).length ≤ 6 ∧ (4 ≤ n → (idxs n t 3).any (fun i => decide (i < n)) = true) := by decide +kernel
theorem idx2 : ∀ n < 4, ∀ t < 2, (idxs n t 2).length ≤ 2 := by decide +kernel
theorem pick_len {α : Type} (l : List α) (t m : Nat) : (pickD l (some (t : Int)) none (some (m : Int))).length ≤ (idxs l.length t m).length := List.length_filterMap_le _ _
theorem picked_ne (ns : List Int) (m t : Nat) : picked ns m t ≠ [] := by
  unfold picked
  by_cases h : pickD (ns.take 18) (some (t : Int)) none (some (m : Int)) = []
  · rw [if_pos h]; simp
  · rw [if_neg h]; exact h
theorem picked_ok (ns : List Int) {t : Nat} (ht : t < manyOf ns) : (picked ns (manyOf ns) t).length ≤ 6 ∧ picked ns (manyOf ns) t ≠ [] ∧ (t = 2 → pickD (ns.take 18) (some (t : Int)) none (some (manyOf ns : Int)) ≠ []) := by
  have hl : (ns.take 18).length = min 18 ns.length := List.length_take
  unfold manyOf at ht ⊢
  have hne := picked_ne ns (if 3 < ns.length then 3 else 2) t
  by_cases h : 3 < ns.length
  · rw [if_pos h] at ht hne ⊢
    have h1 := idx3 (ns.take 18).length (by lia) t ht
    have h2 := pick_len (ns.take 18) t 3
    have h3 : pickD (ns.take 18) (some (t : Int)) none (some (3 : Nat)) ≠ [] := by
      obtain ⟨i, hi, hlt⟩ := List.any_eq_true.mp (h1.2 (by lia))
      have hlt := of_decide_eq_true hlt
      have : (ns.take 18)[i] ∈ pickD (ns.take 18) (some (t : Int)) none (some (3 : Nat)) := List.mem_filterMap.mpr ⟨i, hi, List.getElem?_eq_getElem hlt⟩
      exact List.ne_nil_of_mem this
    refine ⟨?_, hne, fun zz1 => h3⟩
    unfold picked
    rw [if_neg h3]
    lia
  · rw [if_neg h] at ht hne ⊢
    have h1 := idx2 (ns.take 18).length (by lia) t ht
    have h2 := pick_len (ns.take 18) t 2
    refine ⟨?_, hne, fun e => by lia⟩
    unfold picked
    split
    · simp
    · lia

noncomputable def forBody : Option Stmt → List Stmt
  | some (.For _ _ b _ _) => b
  | _ => []
noncomputable def forIter : Option Stmt → Expr
  | some (.For _ e _ _ _) => e
  | _ => .Constant .none 0 ⟨0, 0, 0, 0⟩
noncomputable def wayAt (ns : List Int) (t : Nat) : Way := wayOf (picked ns (manyOf ns) t)
noncomputable def spellAt (ns : List Int) (t : Nat) : List Nat := spellOf (picked ns (manyOf ns) t)
noncomputable def waysOf (ns : List Int) : List Way := (List.range (manyOf ns)).map (wayAt ns)
noncomputable def spellsOf (ns : List Int) : List (List Nat) := (List.range (manyOf ns)).map (spellAt ns)
theorem piece_txt {f : Nat} (hf : f < 24) : (pieceL f).1.length ≤ 2 := by
  unfold pieceL
  split
  · simp
  · split
    · simp
    · simp; lia
theorem spellP_mem {ps : List (List Nat × Way)} (h : ∀ p ∈ ps, p.1.length ≤ 2) : ∀ x ∈ spellP ps, x.length ≤ 2 := fun x hx => by
  cases ps with
  | nil => cases hx
  | cons p ps =>
    rcases List.mem_cons.mp hx with e | hx
    · rw [e]
      split
      · simp
      · exact h p (.head _)
    · obtain ⟨q, hq, rfl⟩ := List.mem_map.mp hx
      exact h q (.tail _ hq)
theorem spellP_len (ps : List (List Nat × Way)) : (spellP ps).length = ps.length := by
  cases ps with
  | nil => rfl
  | cons p ps => simp [spellP]
theorem many_le (ns : List Int) : 2 ≤ manyOf ns ∧ manyOf ns ≤ 3 := by unfold manyOf; split <;> lia
theorem int_toNat_max {f : Nat} {i : Int} : (if i > (f : Int) then i else (f : Int)) = ((max f i.toNat : Nat) : Int) := by
  split <;> lia

set_option maxHeartbeats 8000000 in
theorem law_turn {p : FnP} (hh : (lawC p).A.handled = none) {a : Addr} {vs : List Value} {ns : List Int} (hS : p.hB.IsList a vs.toArray) (hi : IntsAre vs ns) (hz : vs.length ≤ 63) {t : Nat} (ht : t < manyOf ns) {sp pa : List Dat} (hsp : sp.length ≤ 3) (hpa : pa.length ≤ 3) {Q : Out → Prop}
    (hq : ∀ ρ' : Loc, Loc.Sub [("script", .val (.ref a)), ("many", .dat (.int (manyOf ns : Nat))), ("spelled", .own (sp ++ [DS (spellAt ns t)])), ("paths", .own (pa ++ [dW (wayAt ns t)]))] ρ' → Q (.next ρ')) :
    ExJ (lawC p) [("turn", .dat (.int (t : Nat))), ("script", .val (.ref a)), ("many", .dat (.int (manyOf ns : Nat))), ("spelled", .own sp), ("paths", .own pa)]
      (forBody ((bodyOf "law")[3]?)) Q := by
  have hok := picked_ok ns ht
  have hml := many_le ns
  refine ExJ.cons (SxJ.assign EvJ.intC (.loc rfl) ?_)
  refine ExJ.cons (SxJ.assignNil (.loc rfl) ?_)
  have hst : (wayAt ns t) = wayOf (picked ns (manyOf ns) t) := rfl
  have hst2 : (spellAt ns t) = spellOf (picked ns (manyOf ns) t) := rfl
  have hits : ∀ ρ : Loc, ρ.lookup ("script" : Str) = some (.val (.ref a)) → ρ.lookup ("many" : Str) = some (.dat (.int (manyOf ns : Nat))) → ρ.lookup ("turn" : Str) = some (.dat (.int (t : Nat))) →
      EvJ (lawC p) ρ (forIter ((forBody ((bodyOf "law")[3]?))[2]?)) (.dat (.list ((picked ns (manyOf ns) t).map .int))) := fun ρ h1 h2 h3 => by
    have hpk : pickD ((ns.take 18).map Dat.int) (some (t : Int)) none (some (manyOf ns : Int)) = (pickD (ns.take 18) (some (t : Int)) none (some (manyOf ns : Int))).map Dat.int := pickD_map ..
    have hlen : (ns.take 18).length ≤ 18 := by rw [List.length_take]; lia
    have h18 : sl none (some (18 : Int)) ns = ns.take 18 := sl_take 18 ns
    refine EvJ.orE (t := decide (pickD (ns.take 18) (some (t : Int)) none (some (manyOf ns : Int)) ≠ [])) (EvJ.sliceSt (EvJ.sliceRaw (lo := none) (hi := some 18) hS hi h1 .none (.some EvJ.intC) (by lia)) (.some (EvJ.name h3)) .none (.some (EvJ.name h2)) (by intro e; have := Option.some.inj e; lia) (by rw [h18]; simp; lia)) ?_ (fun hf => ?_) (fun hf => ?_)
    · rw [h18, hpk]
      have hb : (pickD (ns.take 18) (some (t : Int)) none (some (manyOf ns : Int))).length ≤ 1000000 := by
        have := List.length_filterMap_le (fun i => (ns.take 18)[i]?) (idxs (ns.take 18).length t (manyOf ns))
        have h9 : (picked ns (manyOf ns) t).length ≤ 6 := hok.1
        unfold picked at h9
        split at h9
        · rename_i e; rw [e]; simp
        · lia
      have := tr_list (ds := (pickD (ns.take 18) (some (t : Int)) none (some (manyOf ns : Int))).map Dat.int) (by simpa using hb)
      rw [show decide (pickD (ns.take 18) (some (t : Int)) none (some (manyOf ns : Int)) ≠ []) = !((pickD (ns.take 18) (some (t : Int)) none (some (manyOf ns : Int))).map Dat.int).isEmpty from by cases pickD (ns.take 18) (some (t : Int)) none (some (manyOf ns : Int)) <;> simp]
      exact this
    · have he : pickD (ns.take 18) (some (t : Int)) none (some (manyOf ns : Int)) = [] := by simpa using hf
      have ht2 : t < 2 := by
        rcases Nat.lt_or_ge t 2 with q | q
        · exact q
        · exact absurd he (hok.2.2 (by lia))
      refine .oneE ?_
      have hpe : picked ns (manyOf ns) t = [if t = 0 then 64 else 99] := by unfold picked; rw [if_pos he]
      rw [hpe]
      refine EvJ.listE (ds := [.int (if t = 0 then 64 else 99)]) (.cons (EvJ.itemT (i := (t : Int)) (ds := [.int 64, .int 99]) (EvJ.tupE (.cons EvJ.intC (.cons EvJ.intC .nil))) (EvJ.name h3) (by lia) ?_ (by lia)) .nil)
      rcases t with _ | _ | t
      · rfl
      · rfl
      · lia
    · have he : pickD (ns.take 18) (some (t : Int)) none (some (manyOf ns : Int)) ≠ [] := of_decide_eq_true hf
      rw [h18, hpk]
      unfold picked
      rw [if_neg he]
  generalize picked ns (manyOf ns) t = nums at hok hst hst2 hits
  have hnl : nums.length ≤ 6 := hok.1
  have hnn : nums ≠ [] := hok.2.1
  refine ExJ.cons (SxJ.forE (ItJ.list (x := "number") (ds := nums.map .int) (hits _ rfl rfl rfl)) hh (fun ns e => by cases e; exact kept_all (by rfl))
    (fun i => [("front", .dat (.int (frontsOf (nums.take i) : Nat))), ("pieces", .own ((piecesOf (nums.take i)).map dP)), ("script", .val (.ref a)), ("many", .dat (.int (manyOf ns : Nat))), ("spelled", .own sp), ("paths", .own pa)])
    (.cons rfl (.cons rfl (.cons rfl (.cons rfl (.cons rfl (.cons rfl .nil)))))) (fun i g hg => ?_) ?_)
  · rw [List.map_map, List.getElem?_map] at hg
    obtain ⟨n, hn, rfl⟩ := Option.map_eq_some_iff.mp hg
    have hil : i < nums.length := (List.getElem?_eq_some_iff.mp hn).1
    have hst3 : piecesOf (nums.take (i + 1)) = piecesOf (nums.take i) ++ pieces2 n := by
      unfold piecesOf
      rw [List.take_add_one, hn, List.flatMap_append]
      simp
    have hst4 : frontsOf (nums.take (i + 1)) = max (frontsOf (nums.take i)) (frontOf n).toNat := by
      unfold frontsOf
      rw [List.take_add_one, hn, List.foldl_append]
      rfl
    have hpl := piecesOf_len (nums.take i)
    rw [List.length_take] at hpl
    have f1 := fig_lt n
    have f2 := fig2_lt n
    refine ExJ.cons (SxJ.iaddList (es := (pieces2 n).map dP) rfl (.loc rfl) (EvJ.listE (.cons (EvJ.callL (j_piece f1.1) hh (.cons (by rw [f1.2]; exact EvJ.binop (EvJ.name rfl) EvJ.intC (op_mod (by decide))) .nil))
      (.cons (EvJ.callL (j_piece f2.1) hh (.cons (by rw [f2.2]; exact EvJ.binop (EvJ.binop (EvJ.name rfl) EvJ.intC (op_fdiv (by decide) (PyProof.noPylong_small (by decide)))) EvJ.intC (op_mod (by decide))) .nil)) .nil)) (hz := by simp [pieces2])) (by simp [pieces2]; lia) ?_)
    refine ExJ.cons (SxJ.assign (EvJ.callB (bi_max2 (a := (frontsOf (nums.take i) : Nat)) (b := frontOf n)) hh (.cons (EvJ.name rfl) (.cons (EvJ.binop (EvJ.binop (EvJ.binop (EvJ.name rfl) EvJ.intC (op_fdiv (by decide) (PyProof.noPylong_small (by decide)))) EvJ.intC (op_mod (by decide))) EvJ.intC op_sub) .nil))) (.loc rfl) ?_)
    rw [int_toNat_max]
    refine ExJ.nil ?_
    show Loc.Sub _ _
    rw [hst3, hst4, List.map_append]
    exact .cons rfl (.cons rfl (.cons rfl (.cons rfl (.cons rfl (.cons rfl .nil)))))
  simp only [List.length_map]
  rw [List.take_length]
  have hpl := piecesOf_len nums
  have hpm : ∀ q ∈ piecesOf nums, q.1.length ≤ 2 := fun q hq => by
    obtain ⟨f, hf, rfl⟩ := piecesOf_mem hq
    exact piece_txt hf
  have hpi := pieces_in (l := nums)
  have hfr := fronts_le nums
  rw [hst, hst2] at hq
  unfold wayOf spellOf at hq
  have hpn : piecesOf nums ≠ [] := fun e => by
    rw [e] at hpl
    have : nums.length = 0 := by simp at hpl; lia
    exact hnn (List.length_eq_zero_iff.mp this)
  generalize piecesOf nums = ps at hpl hpm hpi hpn hq ⊢
  generalize frontsOf nums = fr at hfr hq ⊢
  refine ExJ.freeze (x := "pieces") rfl ?_
  refine ExJ.cons (SxJ.assign (EvJ.tupE (.cons EvJ.intC (.cons EvJ.intC (.cons EvJ.intC (.cons EvJ.intC .nil))))) (.loc rfl) ?_)
  have hrev : pickD (ps.map dP) none none (some (-1)) = ps.reverse.map dP := by rw [pickD_rev, List.map_reverse]
  have hacc : ∀ i, prodW ((ps.reverse.take i).reverse) = ((ps.reverse.take i).foldl (fun w q => q.2.times w) zeroW) := fun i => by
    unfold prodW
    rw [List.foldr_reverse]
  refine ExJ.cons (SxJ.forE (ItJ.list (ds := ps.reverse.map dP) (hrev ▸ EvJ.sliceSt (ds := ps.map dP) (EvJ.name rfl) .none .none (.some (EvJ.unop EvJ.intC op_usub)) (by decide) (by simp; lia))) hh (fun ns e => by cases e; exact kept_all (by rfl))
    (fun i => [("way", .dat (dW (prodW ((ps.reverse.take i).reverse)))), ("front", .dat (.int (fr : Nat))), ("pieces", .dat (.list (ps.map dP))), ("script", .val (.ref a)), ("many", .dat (.int (manyOf ns : Nat))), ("spelled", .own sp), ("paths", .own pa)])
    (.cons rfl (.cons rfl (.cons rfl (.cons rfl (.cons rfl (.cons rfl (.cons rfl .nil))))))) (fun i g hg => ?_) ?_)
  · rw [List.map_map, List.getElem?_map] at hg
    obtain ⟨q, hq1, rfl⟩ := Option.map_eq_some_iff.mp hg
    have hil : i < ps.reverse.length := (List.getElem?_eq_some_iff.mp hq1).1
    have hqm : q ∈ ps := List.mem_reverse.mp (List.mem_of_getElem? hq1)
    have hst3 : prodW ((ps.reverse.take (i + 1)).reverse) = q.2.times (prodW ((ps.reverse.take i).reverse)) := by
      rw [hacc, hacc, List.take_add_one, hq1, List.foldl_append]
      rfl
    have hpin : (prodW ((ps.reverse.take i).reverse)).In ((ps.reverse.take i).reverse).length := prod_in fun r hr => hpi r (List.mem_reverse.mp (List.mem_of_mem_take (List.mem_reverse.mp hr)))
    refine ExJ.cons (SxJ.assign (EvJ.callL (j_times ((hpi q hqm).ok (by lia)) (hpin.ok (by simp; lia))) hh (.cons (EvJ.itemT (i := 1) (ds := [DS q.1, dW q.2]) (EvJ.name rfl) EvJ.intC (by decide) rfl (by decide)) (.cons (EvJ.name rfl) .nil))) (.loc rfl) ?_)
    refine ExJ.nil ?_
    show Loc.Sub _ _
    rw [hst3]
    exact .cons rfl (.cons rfl (.cons rfl (.cons rfl (.cons rfl (.cons rfl (.cons rfl .nil))))))
  simp only [List.length_map]
  rw [List.take_length, List.reverse_reverse]
  have hpin := prod_in hpi
  refine ExJ.cons (SxJ.append rfl (EvJ.callL (j_times (a := ⟨fr, 0, 0, 0⟩) ((front_in hfr).ok (by lia)) (hpin.ok (by lia))) hh (.cons (EvJ.tupE (.cons (EvJ.name rfl) (.cons EvJ.intC (.cons EvJ.intC (.cons EvJ.intC .nil))))) (.cons (EvJ.name rfl) .nil))) (by lia) ?_)
  obtain ⟨q0, qs, rfl⟩ := List.exists_cons_of_ne_nil hpn
  have hsm : ∀ x ∈ spellP (q0 :: qs), x.length ≤ 2 := spellP_mem hpm
  have hjl := joinL_len hsm
  have hsl := spellP_len (q0 :: qs)
  have hspe : (spellP (q0 :: qs)).map DS = [DS (if q0.1 = [] then [46] else q0.1)] ++ qs.map fun q => DS q.1 := by simp [spellP, List.map_map]
  refine ExJ.cons (SxJ.append rfl (EvJ.binop (EvJ.binop EvJ.strC (EvJ.name rfl) (op_mulS (c := 47) (n := fr) (by lia))) (@EvJ.meth1 _ _ _ _ _ _ _ _ (.list ((spellP (q0 :: qs)).map DS)) _ EvJ.strC
    (EvJ.binop (EvJ.listE (ds := [DS (if q0.1 = [] then [46] else q0.1)]) (.cons (EvJ.orE (t := decide (q0.1 ≠ [])) (EvJ.itemT (i := 0) (ds := [DS q0.1, dW q0.2]) (EvJ.item (i := 0) (d := dP q0) (EvJ.name rfl) EvJ.intC (by decide) rfl (by decide)) EvJ.intC (by decide) rfl (by decide)) (tr_str (by have := hpm q0 (.head _); lia)) (fun h => ?_) (fun h => ?_)) .nil))
      (EvJ.compA (xs := qs) (g := dP) (r := fun q => DS q.1) (ρ' := []) (ItJ.list (ds := qs.map dP) ?_) hh (Caught.of .nil (by rfl) (by rfl) (by rfl) (by rfl) (by rfl) (by rfl)) (fun q x hx => ?_) (by simp at hpl; lia)) (by rw [hspe]; exact op_addL (ds := [DS (if q0.1 = [] then [46] else q0.1)]) (es := qs.map fun q => DS q.1) (by simp at hpl ⊢; lia)))
    (meth_join 47 (fun x hx => by have := hsm x hx; lia) (by simp at hpl hsl ⊢; lia)) rfl rfl rfl) (op_addS (x := List.replicate fr 47) (y := joinL 47 (spellP (q0 :: qs))) (by rw [List.length_replicate]; rw [hpl] at hsl; rw [hsl] at hjl; lia))) (by lia) ?_)
  · have h1 : q0.1 = [] := by simpa using h
    rw [if_pos h1]
    exact .oneE EvJ.strC
  · have h1 : q0.1 ≠ [] := of_decide_eq_true h
    rw [if_neg h1]
  · have : sl (some (1 : Int)) none ((q0 :: qs).map dP) = qs.map dP := sl_drop 1 _
    exact this ▸ EvJ.sliceL (ds := (q0 :: qs).map dP) (EvJ.name rfl) (.some EvJ.intC) .none (by simp at hpl ⊢; lia)
  · exact EvJ.itemT (i := 0) (ds := [DS x.1, dW x.2]) (EvJ.name rfl) EvJ.intC (by decide) rfl (by decide)
  · exact ExJ.nil (hq _ (.cons rfl (.cons rfl (.cons rfl (.cons rfl .nil)))))
end Mine
end
section
open PySem PySem.W PySem.Calls PyProof.Rows PyProof.V
namespace Mine

set_option maxHeartbeats 8000000 in
theorem law_s1 {p : FnP} (hh : (lawC p).A.handled = none) {a : Addr} {vs : List Value} {ns : List Int} (hS : p.hB.IsList a vs.toArray) (hi : IntsAre vs ns) (hz : vs.length ≤ 63) {Q : Out → Prop}
    (next : ExJ (lawC p) [("many", .dat (.int (manyOf ns : Nat))), ("paths", .dat (.list ((waysOf ns).map dW))), ("spelled", .dat (.list ((spellsOf ns).map DS)))] ((bodyOf "law").drop 4) Q) :
    ExJ (lawC p) [("script", .val (.ref a))] (bodyOf "law") Q := by
  have hvl : vs.length = ns.length := by
    have := (datInts (Φ := []) hi).length
    rw [this, List.length_map]
  have hm : ((2 : Int) + if (decide (((vs.length : Nat) : Int) > 3)) = true then 1 else 0) = ((manyOf ns : Nat) : Int) := by
    unfold manyOf
    rw [hvl]
    by_cases h : 3 < ns.length
    · rw [if_pos h, if_pos (by simp; lia)]; rfl
    · rw [if_neg h, if_neg (by simp; lia)]; rfl
  refine ExJ.cons (SxJ.assign (av := .dat (.int (manyOf ns : Nat))) (hm ▸ EvJ.binop EvJ.intC (EvJ.cmp (EvJ.lenRaw (C := lawC p) hS rfl (by lia)) EvJ.intC op_gtI) op_addB) (.loc rfl) ?_)
  refine ExJ.cons (SxJ.assignNil (.cell rfl rfl) ?_)
  refine ExJ.cons (SxJ.assignNil (.cell rfl rfl) ?_)
  have hml := many_le ns
  refine ExJ.cons (SxJ.forE (ItJ.range (n := manyOf ns) (EvJ.name rfl) (by lia)) hh (fun ns e => by cases e; exact kept_all (by rfl))
    (fun i => [("script", .val (.ref a)), ("many", .dat (.int (manyOf ns : Nat))), ("spelled", .own (((List.range i).map (spellAt ns)).map DS)), ("paths", .own (((List.range i).map (wayAt ns)).map dW))])
    (.cons rfl (.cons rfl (.cons rfl (.cons rfl .nil)))) (fun i g hg => ?_) ?_)
  · rw [List.getElem?_map] at hg
    obtain ⟨t, ht, rfl⟩ := Option.map_eq_some_iff.mp hg
    obtain ⟨htl, hte⟩ := List.getElem?_eq_some_iff.mp ht
    have hti : t = i := by simpa using hte.symm
    subst hti
    have hlt : t < manyOf ns := by simpa using htl
    refine law_turn hh hS hi hz hlt (by simp; lia) (by simp; lia) fun ρ' hsub => ?_
    show Loc.Sub _ ρ'
    have e1 : ((List.range (t + 1)).map (spellAt ns)).map DS = ((List.range t).map (spellAt ns)).map DS ++ [DS (spellAt ns t)] := by simp [List.range_succ]
    have e2 : ((List.range (t + 1)).map (wayAt ns)).map dW = ((List.range t).map (wayAt ns)).map dW ++ [dW (wayAt ns t)] := by simp [List.range_succ]
    rw [e1, e2]
    exact hsub
  · simp only [List.length_map, List.length_range]
    refine ExJ.freeze (x := "paths") (ds := ((List.range (manyOf ns)).map (wayAt ns)).map dW) rfl ?_
    refine ExJ.freeze (x := "spelled") (ds := ((List.range (manyOf ns)).map (spellAt ns)).map DS) rfl ?_
    exact ExJ.sub next (.cons rfl (.cons rfl (.cons rfl .nil)))
end Mine
end
section
open PySem PySem.W PySem.Calls PyProof.Rows PyProof.V
namespace Mine

noncomputable def wt : List (List Nat) → Nat
  | [] => 0
  | x :: xs => x.length + 1 + wt xs
theorem wt_join : ∀ xs : List (List Nat), (joinL 47 xs).length ≤ wt xs - 1
  | [] => by simp [joinL]
  | [x] => by simp [joinL, wt]
  | x :: y :: r => by
    have h := wt_join (y :: r)
    simp only [joinL, wt, List.length_append, List.length_cons] at h ⊢
    lia
theorem wt_sub {xs ys : List (List Nat)} (h : xs.Sublist ys) : wt xs ≤ wt ys := by
  induction h with
  | slnil => exact Nat.le_refl _
  | cons a h ih => simp only [wt]; lia
  | cons_cons a h ih => simp only [wt]; lia
theorem wt_split : ∀ l : List Nat, wt (splitL 47 l) ≤ l.length + 1
  | [] => by simp [splitL, wt]
  | a :: r => by
    have ih := wt_split r
    unfold splitL
    split
    · simp only [wt, List.length_nil, List.length_cons]; lia
    · split
      · simp [wt]
      · rename_i y ys e
        rw [e] at ih
        simp only [wt, List.length_cons] at ih ⊢
        lia
theorem normStep_sub (r : List Nat) (acc : List (List Nat)) (c : List Nat) : (normStep r acc c).Sublist (acc ++ [c]) := by
  unfold normStep
  split
  · exact List.sublist_append_left _ _
  · split
    · exact List.Sublist.refl _
    · exact (List.dropLast_sublist _).trans (List.sublist_append_left _ _)
theorem normFold_sub (r : List Nat) : ∀ (cs acc : List (List Nat)), (cs.foldl (normStep r) acc).Sublist (acc ++ cs)
  | [], acc => by simp
  | c :: cs, acc => by
    have h := normFold_sub r cs (normStep r acc c)
    refine h.trans ?_
    have h2 := (normStep_sub r acc c).append (List.Sublist.refl cs)
    simpa using h2
theorem splitroot_len (l : List Nat) : (splitrootL l).1.length + (splitrootL l).2.length = l.length := by
  unfold splitrootL
  split <;> simp <;> lia
theorem normL_len (l : List Nat) : (normL l).length ≤ l.length + 1 := by
  unfold normL
  split
  · simp
  · dsimp only
    split
    · simp
    · have h1 := wt_sub (normFold_sub (splitrootL l).1 (splitL 47 (splitrootL l).2) [])
      have h2 := wt_split (splitrootL l).2
      have h3 := wt_join ((splitL 47 (splitrootL l).2).foldl (normStep (splitrootL l).1) [])
      have h4 := splitroot_len l
      simp only [List.nil_append] at h1
      rw [List.length_append]
      lia

noncomputable def njoin (a b : List Nat) : List Nat := normL (joinStep a b)
theorem njoin_len (a b : List Nat) : (njoin a b).length ≤ a.length + b.length + 2 := by
  have h1 := normL_len (joinStep a b)
  have h2 := joinStep_len a b
  unfold njoin
  lia
theorem EvJ.njoinE {C : Cx} {ρ : Loc} {e1 e2 : Expr} {a b : List Nat} {np mp c1 c2 : Pos} (hh : C.A.handled = none) (h1 : EvJ C ρ e1 (.dat (DS a))) (h2 : EvJ C ρ e2 (.dat (DS b))) (ha : a.length ≤ 400) (hb : b.length ≤ 400) (hl : 3 ≤ C.lv)
    (hk : C.env.kindOf "normpath" = some .globalImplicit := by rfl) (hk2 : C.env.kindOf "join" = some .globalImplicit := by rfl) (ht : backTo c1 (starEach [.Call (.Name "join" mp) [e1, e2] [] c2] C.env) = [.Call (.Name "join" mp) [e1, e2] [] c2].map fun e => (false, eval e C.env) := by rfl)
    (ht2 : backTo c2 (starEach [e1, e2] C.env) = [e1, e2].map fun e => (false, eval e C.env) := by rfl) : EvJ C ρ (.Call (.Name "normpath" np) [.Call (.Name "join" mp) [e1, e2] [] c2] [] c1) (.dat (DS (njoin a b))) := by
  have hj := joinStep_len a b
  exact EvJ.callL (j_normpath (joinStep a b) (by lia)) hh (.cons (EvJ.callL (j_join a [b] (.inl rfl) (by lia) (fun x hx => by rw [List.mem_singleton.mp hx]; lia)) hh (.cons h1 (.cons h2 .nil)) (by lia) (by decide +kernel) hk2 ht2) .nil) hl (by decide +kernel) hk ht

noncomputable def chainOf (sps : List (List Nat)) : List (List Nat) := sps ++ sps.take 1
noncomputable def wholeW (ws : List Way) : Way := (ws ++ ws.take 1).foldr Way.times zeroW
noncomputable def aheadL (ch : List (List Nat)) : List Nat := ch.tail.foldl njoin (ch.headD [])
noncomputable def backL (ch : List (List Nat)) : List Nat := ch.dropLast.foldr njoin (ch.getLastD [])
theorem foldr_in {n : Nat} : ∀ {ws : List Way}, (∀ w ∈ ws, w.In n) → (ws.foldr Way.times zeroW).In (ws.length * n)
  | [], _ => zero_in _
  | w :: ws, h => by
    have := times_in (h w (.head _)) (foldr_in fun q hq => h q (.tail _ hq))
    rw [List.length_cons, Nat.add_mul, Nat.one_mul, Nat.add_comm]
    exact this
theorem foldln_len : ∀ (cs : List (List Nat)) (a : List Nat) (k : Nat), (∀ c ∈ cs, c.length ≤ 40) → (cs.foldl njoin a).length ≤ a.length + 42 * cs.length
  | [], a, k, _ => by simp
  | c :: cs, a, k, h => by
    have h1 := foldln_len cs (njoin a c) k fun x hx => h x (.tail _ hx)
    have h2 := njoin_len a c
    have h3 := h c (.head _)
    simp only [List.foldl_cons, List.length_cons]
    lia
theorem foldrn_len : ∀ (cs : List (List Nat)) (a : List Nat), (∀ c ∈ cs, c.length ≤ 40) → (cs.foldr njoin a).length ≤ a.length + 42 * cs.length
  | [], a, _ => by simp
  | c :: cs, a, h => by
    have h1 := foldrn_len cs a fun x hx => h x (.tail _ hx)
    have h2 := njoin_len c (cs.foldr njoin a)
    have h3 := h c (.head _)
    simp only [List.foldr_cons, List.length_cons]
    lia
end Mine
end
section
open PySem PySem.W PySem.Calls PyProof.Rows PyProof.V
namespace Mine

theorem op_neL {xs ys : List (List Nat)} {t : Bool} (hx : ∀ x ∈ xs, Asc x) (hy : ∀ y ∈ ys, Asc y) (ht : t = true ↔ xs = ys) : Op2 (compareOp .NotEq) (.list (xs.map DS)) (.list (ys.map DS)) (.bool (!t)) := by
  have kq : ∀ zs : List (List Nat), (∀ z ∈ zs, Asc z) → kqdOk 8 (.list (zs.map DS)) = true := fun zs hz => by
    show ((zs.map DS).all (kqdOk 7)) = true
    rw [List.all_eq_true]
    intro d hd
    obtain ⟨z, hz', rfl⟩ := List.mem_map.mp hd
    exact kq_str (hz z hz') 7
  refine op_neD (kq xs hx) (kq ys hy) (ht.trans ?_)
  rw [Dat.list.injEq]
  exact ⟨fun e => by rw [e], fun e => (List.map_inj_right (fun a b e => DS_inj.mp e)).mp e⟩

noncomputable def asgE : Option Stmt → Expr
  | some (.Assign _ e _) => e
  | _ => .Constant .none 0 ⟨0, 0, 0, 0⟩
set_option maxHeartbeats 8000000 in
theorem law_s2 {p : FnP} (hh : (lawC p).A.handled = none) {n : Nat} {ws : List Way} {sps : List (List Nat)} (hn : n = 2 ∨ n = 3) (hw : ws.length = n) (hs : sps.length = n) (hwi : ∀ w ∈ ws, w.In 12) (hsl : ∀ x ∈ sps, x.length ≤ 40) {Q : Out → Prop}
    (hF : normL ((chainOf sps).tail.foldl joinStep ((chainOf sps).headD [])) = (wholeW ws).text ∧ aheadL (chainOf sps) = (wholeW ws).text ∧ backL (chainOf sps) = (wholeW ws).text)
    (next : ExJ (lawC p) [("many", .dat (.int (n : Nat))), ("paths", .dat (.list (ws.map dW))), ("spelled", .dat (.list (sps.map DS)))] ((bodyOf "law").drop 11) Q) :
    ExJ (lawC p) [("many", .dat (.int (n : Nat))), ("paths", .dat (.list (ws.map dW))), ("spelled", .dat (.list (sps.map DS)))] ((bodyOf "law").drop 4) Q := by
  refine ExJ.cons (SxJ.assign (EvJ.tupE (.cons EvJ.intC (.cons EvJ.intC (.cons EvJ.intC (.cons EvJ.intC .nil))))) (.loc rfl) ?_)
  have hws : ∀ w ∈ ws ++ ws.take 1, w.In 12 := fun w h => (List.mem_append.mp h).elim (hwi w) fun h => hwi w (List.mem_of_mem_take h)
  have hwl : (ws ++ ws.take 1).length ≤ 4 := by rw [List.length_append, List.length_take]; lia
  have hit : ∀ ρ : Loc, ρ.lookup ("paths" : Str) = some (.dat (.list (ws.map dW))) → EvJ (lawC p) ρ (forIter ((bodyOf "law")[5]?)) (.dat (.list (((ws ++ ws.take 1).reverse).map dW))) := fun ρ h => by
    have e1 : sl none (some (1 : Int)) (ws.map dW) = (ws.take 1).map dW := by rw [show sl none (some (1 : Int)) (ws.map dW) = (ws.map dW).take 1 from sl_take 1 _, List.map_take]
    have e2 : pickD (ws.map dW ++ (ws.take 1).map dW) none none (some (-1)) = ((ws ++ ws.take 1).reverse).map dW := by rw [pickD_rev, ← List.map_append, List.map_reverse]
    rw [← e2]
    refine EvJ.sliceSt (EvJ.binop (EvJ.name h) (e1 ▸ EvJ.sliceL (lo := none) (hi := some 1) (EvJ.name h) .none (.some EvJ.intC) (by simp; lia)) (op_addL (by simp; lia))) .none .none (.some (EvJ.unop EvJ.intC op_usub)) (by decide) (by simp; lia)
  have hwhole : wholeW ws = (ws ++ ws.take 1).foldr Way.times zeroW := rfl
  generalize ws ++ ws.take 1 = wz at hws hwl hit hwhole
  refine ExJ.cons (SxJ.forE (ItJ.list (x := "way") (ds := wz.reverse.map dW) (hit _ rfl)) hh (fun ns e => by cases e; exact kept_all (by rfl))
    (fun i => [("whole", .dat (dW ((wz.reverse.take i).reverse.foldr Way.times zeroW))), ("many", .dat (.int (n : Nat))), ("paths", .dat (.list (ws.map dW))), ("spelled", .dat (.list (sps.map DS)))])
    (.cons rfl (.cons rfl (.cons rfl (.cons rfl .nil)))) (fun i g hg => ?_) ?_)
  · rw [List.map_map, List.getElem?_map] at hg
    obtain ⟨w, hw1, rfl⟩ := Option.map_eq_some_iff.mp hg
    have hwm : w ∈ wz := List.mem_reverse.mp (List.mem_of_getElem? hw1)
    have hst : ((wz.reverse.take (i + 1)).reverse.foldr Way.times zeroW) = w.times ((wz.reverse.take i).reverse.foldr Way.times zeroW) := by
      rw [List.take_add_one, hw1]
      simp
    have hin : ((wz.reverse.take i).reverse.foldr Way.times zeroW).In (((wz.reverse.take i).reverse).length * 12) := foldr_in fun q hq => hws q (List.mem_reverse.mp (List.mem_of_mem_take (List.mem_reverse.mp hq)))
    refine ExJ.cons (SxJ.assign (EvJ.callL (j_times ((hws w hwm).ok (by lia)) (hin.ok (by simp; lia))) hh (.cons (EvJ.name rfl) (.cons (EvJ.name rfl) .nil))) (.loc rfl) ?_)
    refine ExJ.nil ?_
    show Loc.Sub _ _
    rw [hst]
    exact .cons rfl (.cons rfl (.cons rfl (.cons rfl .nil)))
  simp only [List.length_map]
  rw [List.take_length, List.reverse_reverse, ← hwhole]
  have hwok : (wholeW ws).Ok := by
    rw [hwhole]
    exact (foldr_in hws).ok (by lia)
  -- the chain
  have hchl : (chainOf sps).length = n + 1 := by unfold chainOf; rw [List.length_append, List.length_take]; lia
  have hchm : ∀ c ∈ chainOf sps, c.length ≤ 40 := fun c hc => by
    unfold chainOf at hc
    exact (List.mem_append.mp hc).elim (hsl c) fun h => hsl c (List.mem_of_mem_take h)
  have hchE : ∀ ρ : Loc, ρ.lookup ("spelled" : Str) = some (.dat (.list (sps.map DS))) → EvJ (lawC p) ρ (asgE ((bodyOf "law")[6]?)) (.dat (.list ((chainOf sps).map DS))) := fun ρ h => by
    have e1 : sl none (some (1 : Int)) (sps.map DS) = (sps.take 1).map DS := by rw [show sl none (some (1 : Int)) (sps.map DS) = (sps.map DS).take 1 from sl_take 1 _, List.map_take]
    unfold chainOf
    rw [List.map_append]
    exact EvJ.binop (EvJ.name h) (e1 ▸ EvJ.sliceL (lo := none) (hi := some 1) (EvJ.name h) .none (.some EvJ.intC) (by simp; lia)) (op_addL (by simp; lia))
  refine ExJ.cons (SxJ.assign (hchE _ rfl) (.loc rfl) ?_)
  generalize chainOf sps = ch at hF hchl hchm
  have hc0 : ch[0]? = some (ch.headD []) := by cases ch with | nil => simp at hchl | cons a l => rfl
  have hcl : ch.getLast? = some (ch.getLastD []) := by
    cases ch with
    | nil => simp at hchl
    | cons a l =>
      obtain ⟨z, hz⟩ : ∃ z, (a :: l).getLast? = some z := ⟨_, List.getLast?_eq_some_getLast (by simp)⟩
      rw [List.getLastD_eq_getLast?, hz]; rfl
  refine ExJ.cons (SxJ.assign (EvJ.item (i := 0) (d := DS (ch.headD [])) (EvJ.name rfl) EvJ.intC (by decide) (by rw [List.getElem?_map, show (0 : Int).toNat = 0 from rfl, hc0]; rfl) (by decide)) (.loc rfl) ?_)
  refine ExJ.cons (SxJ.assign (EvJ.itemNeg (i := -1) (d := DS (ch.getLastD [])) (EvJ.name rfl) (EvJ.unop EvJ.intC op_usub) (by decide) (by simp; lia) (by
    rw [List.getElem?_map, List.length_map, show (-1 + (ch.length : Int)).toNat = ch.length - 1 from by lia, ← List.getLast?_eq_getElem?, hcl]; rfl) (by decide)) (.loc rfl) ?_)
  have hlen : ((ch.map DS).length : Int) = ((ch.length : Nat) : Int) := by simp
  refine ExJ.cons (SxJ.forE (ItJ.range2 (a := 1) (n := ch.length) EvJ.intC (hlen ▸ EvJ.callB (bi_lenL (ds := ch.map DS) (by simp; lia)) hh (.cons (EvJ.name rfl) .nil)) (by lia) (by lia)) hh (fun ns e => by cases e; exact kept_all (by rfl))
    (fun i => [("ahead", .dat (DS ((ch.tail.take i).foldl njoin (ch.headD [])))), ("back", .dat (DS ((ch.dropLast.drop (n - i)).foldr njoin (ch.getLastD [])))), ("chain", .dat (.list (ch.map DS))), ("whole", .dat (dW (wholeW ws))), ("many", .dat (.int (n : Nat))), ("paths", .dat (.list (ws.map dW))), ("spelled", .dat (.list (sps.map DS)))])
    ?_ (fun i g hg => ?_) ?_)
  · have e1 : ch.dropLast.drop (n - 0) = [] := List.drop_eq_nil_of_le (by rw [List.length_dropLast]; lia)
    rw [e1]
    exact .cons rfl (.cons rfl (.cons rfl (.cons rfl (.cons rfl (.cons rfl (.cons rfl .nil))))))
  · rw [List.getElem?_map] at hg
    obtain ⟨j, hj, rfl⟩ := Option.map_eq_some_iff.mp hg
    obtain ⟨hjl, hje⟩ := List.getElem?_eq_some_iff.mp hj
    have hji : j = i := by simpa using hje.symm
    subst hji
    have hjn : j < n := by simp at hjl; lia
    have htl : ch.tail.length = n := by rw [List.length_tail]; lia
    have hdl : ch.dropLast.length = n := by rw [List.length_dropLast]; lia
    obtain ⟨c, hc⟩ : ∃ c, ch[1 + j]? = some c := ⟨_, List.getElem?_eq_getElem (by lia)⟩
    have hct : ch.tail[j]? = some c := by rw [List.getElem?_tail, Nat.add_comm]; exact hc
    obtain ⟨d, hd⟩ : ∃ d, ch[n - 1 - j]? = some d := ⟨_, List.getElem?_eq_getElem (by lia)⟩
    have hdd : ch.dropLast[n - 1 - j]? = some d := by rw [List.getElem?_dropLast, if_pos (by lia)]; exact hd
    have hcz := hchm c (List.mem_of_getElem? hc)
    have hdz := hchm d (List.mem_of_getElem? hd)
    have hst1 : (ch.tail.take (j + 1)).foldl njoin (ch.headD []) = njoin ((ch.tail.take j).foldl njoin (ch.headD [])) c := by
      rw [List.take_add_one, hct, List.foldl_append]; rfl
    have hst2 : (ch.dropLast.drop (n - (j + 1))).foldr njoin (ch.getLastD []) = njoin d ((ch.dropLast.drop (n - j)).foldr njoin (ch.getLastD [])) := by
      have hlt : n - 1 - j < ch.dropLast.length := by lia
      rw [show n - (j + 1) = n - 1 - j from by lia, List.drop_eq_getElem_cons hlt, show n - 1 - j + 1 = n - j from by lia]
      have : ch.dropLast[n - 1 - j] = d := by
        have := List.getElem?_eq_getElem hlt
        rw [hdd] at this
        exact (Option.some.inj this).symm
      rw [this]
      rfl
    have hz1 : ((ch.tail.take j).foldl njoin (ch.headD [])).length ≤ 400 := by
      have h1 := foldln_len (ch.tail.take j) (ch.headD []) 0 fun x hx => hchm x (List.mem_of_mem_tail (List.mem_of_mem_take hx))
      have h2 := hchm _ (List.mem_of_getElem? hc0)
      rw [List.length_take] at h1
      lia
    have hz2 : ((ch.dropLast.drop (n - j)).foldr njoin (ch.getLastD [])).length ≤ 400 := by
      have h1 := foldrn_len (ch.dropLast.drop (n - j)) (ch.getLastD []) fun x hx => hchm x (List.dropLast_subset _ (List.mem_of_mem_drop hx))
      have h2 := hchm _ (List.mem_of_getLast? hcl)
      rw [List.length_drop] at h1
      lia
    refine ExJ.cons (SxJ.assign (EvJ.njoinE hh (EvJ.name rfl) (EvJ.item (i := ((1 + j : Nat) : Int)) (d := DS c) (EvJ.name rfl) (EvJ.name rfl) (by lia) (by rw [Int.toNat_natCast, List.getElem?_map, hc]; rfl) (by lia)) hz1 (by lia) (by show 3 ≤ 5; lia)) (.loc rfl) ?_)
    refine ExJ.cons (SxJ.assign (EvJ.njoinE hh (EvJ.itemNeg (i := -1 - ((1 + j : Nat) : Int)) (d := DS d) (EvJ.name rfl) (EvJ.binop (EvJ.unop EvJ.intC op_usub) (EvJ.name rfl) op_sub) (by lia) (by simp; lia) (by
      rw [List.getElem?_map, List.length_map, show (-1 - ((1 + j : Nat) : Int) + (ch.length : Int)).toNat = n - 1 - j from by lia, hd]; rfl) (by lia)) (EvJ.name rfl) (by lia) hz2 (by show 3 ≤ 5; lia)) (.loc rfl) ?_)
    refine ExJ.nil ?_
    show Loc.Sub _ _
    rw [hst1, hst2]
    exact .cons rfl (.cons rfl (.cons rfl (.cons rfl (.cons rfl (.cons rfl (.cons rfl .nil))))))
  simp only [List.length_map, List.length_range]
  have e1 : ch.length - 1 = n := by lia
  rw [e1]
  have e2 : ch.tail.take n = ch.tail := List.take_of_length_le (by rw [List.length_tail]; lia)
  rw [e2, Nat.sub_self, List.drop_zero]
  have hA : ch.tail.foldl njoin (ch.headD []) = (wholeW ws).text := hF.2.1
  have hB : ch.dropLast.foldr njoin (ch.getLastD []) = (wholeW ws).text := hF.2.2
  rw [hA, hB]
  obtain ⟨c0, ct, rfl⟩ : ∃ c0 ct, ch = c0 :: ct := by
    cases ch with
    | nil => simp at hchl
    | cons a l => exact ⟨a, l, rfl⟩
  have hctl : ct.length = n := by simpa using hchl
  have hjz : (ct.foldl joinStep c0).length ≤ 300 := by
    have : ∀ (cs : List (List Nat)) (a : List Nat), (∀ c ∈ cs, c.length ≤ 40) → (cs.foldl joinStep a).length ≤ a.length + 41 * cs.length := by
      intro cs
      induction cs with
      | nil => intro a _; simp
      | cons c cs ih =>
        intro a h
        have h1 := ih (joinStep a c) fun x hx => h x (.tail _ hx)
        have h2 := joinStep_len a c
        have h3 := h c (.head _)
        simp only [List.foldl_cons, List.length_cons]
        lia
    have h1 := this ct c0 fun c hc => hchm c (.tail _ hc)
    have h2 := hchm c0 (.head _)
    lia
  have hN : normL (ct.foldl joinStep c0) = (wholeW ws).text := hF.1
  refine ExJ.cons (SxJ.ifs (t := false) (TvJ.as (TvJ.cmp (EvJ.listE (ds := [DS (normL (ct.foldl joinStep c0)), DS (wholeW ws).text, DS (wholeW ws).text]) (.cons (EvJ.callL (j_normpath (ct.foldl joinStep c0) (by lia)) hh (.cons (EvJ.callStar (ds := DS c0 :: ct.map DS) (j_join c0 ct (by lia) (by have := hchm c0 (.head _); lia) (fun x hx => by have := hchm x (.tail _ hx); lia)) hh (EvJ.name rfl) (by simp; lia)) .nil)) (.cons (EvJ.name rfl) (.cons (EvJ.name rfl) .nil))))
    (EvJ.binop (EvJ.listE (ds := [DS (wholeW ws).text]) (.cons (EvJ.callL (j_text hwok) hh (.cons (EvJ.name rfl) .nil)) .nil)) EvJ.intC (op_mulL (n := 3) (by lia))) (op_neL (xs := [normL (ct.foldl joinStep c0), (wholeW ws).text, (wholeW ws).text]) (ys := List.replicate 3 (wholeW ws).text) (t := true) ?_ ?_ ?_)) (by rfl)) (fun h => by cases h) fun zz1 => ExJ.nil ?_)
  · intro x hx
    rw [hN] at hx
    simp only [List.mem_cons, List.not_mem_nil, or_false, or_self] at hx
    rw [hx]; exact asc_text _
  · intro x hx
    rw [List.eq_of_mem_replicate hx]; exact asc_text _
  · rw [hN]; simp [List.replicate]
  · exact ExJ.sub next (.cons rfl (.cons rfl (.cons rfl .nil)))
end Mine
end
section
open PySem PySem.W PySem.Calls PyProof.Rows PyProof.V
namespace Mine

noncomputable def pairW (ws : List Way) (i j : Nat) : Way := (ws.getD i zeroW).times (ws.getD j zeroW)
noncomputable def rowW (ws : List Way) (i j : Nat) : Row := ((pairW ws i j).key, (pairW ws i j).text, pairW ws i j)
noncomputable def rowsIn (ws : List Way) (c : Nat → Nat → Bool) (i j : Nat) : List Row := ((List.range j).filter (c i)).map (rowW ws i)
noncomputable def rowsL (ws : List Way) (n : Nat) (c : Nat → Nat → Bool) (i : Nat) : List Row := (List.range i).flatMap fun a => rowsIn ws c a n
noncomputable def leB (i j : Nat) : Bool := decide (i ≤ j)
noncomputable def geB (i j : Nat) : Bool := decide (j ≤ i)
theorem rowsIn_len (ws : List Way) (c : Nat → Nat → Bool) (i j : Nat) : (rowsIn ws c i j).length ≤ j := by
  unfold rowsIn
  rw [List.length_map]
  exact Nat.le_trans (List.length_filter_le _ _) (by simp)
theorem rowsL_len (ws : List Way) (n : Nat) (c : Nat → Nat → Bool) : ∀ i, (rowsL ws n c i).length ≤ i * n
  | 0 => by simp [rowsL]
  | i + 1 => by
    have h1 := rowsL_len ws n c i
    have h2 := rowsIn_len ws c i n
    unfold rowsL at h1 ⊢
    rw [List.range_succ, List.flatMap_append, List.length_append, Nat.add_mul, Nat.one_mul]
    simp only [List.flatMap_cons, List.flatMap_nil, List.append_nil]
    lia
theorem rowsL_succ (ws : List Way) (n : Nat) (c : Nat → Nat → Bool) (i : Nat) : rowsL ws n c (i + 1) = rowsL ws n c i ++ rowsIn ws c i n := by
  unfold rowsL
  rw [List.range_succ, List.flatMap_append]
  simp
theorem rowsIn_succ (ws : List Way) (c : Nat → Nat → Bool) (i j : Nat) : rowsIn ws c i (j + 1) = rowsIn ws c i j ++ if c i j = true then [rowW ws i j] else [] := by
  unfold rowsIn
  rw [List.range_succ, List.filter_append, List.map_append]
  congr 1
  by_cases h : c i j = true <;> simp [h]

set_option maxHeartbeats 8000000 in
theorem law_s3 {p : FnP} (hh : (lawC p).A.handled = none) {n : Nat} {ws : List Way} {sps : List (List Nat)} (hn : n = 2 ∨ n = 3) (hw : ws.length = n) (hs : sps.length = n) (hwi : ∀ w ∈ ws, w.In 12) (hsl : ∀ x ∈ sps, x.length ≤ 40) {Q : Out → Prop}
    (hF : ∀ i j, i < n → j < n → njoin (sps.getD i []) (sps.getD j []) = (pairW ws i j).text)
    (next : ExJ (lawC p) [("many", .dat (.int (n : Nat))), ("paths", .dat (.list (ws.map dW))), ("spelled", .dat (.list (sps.map DS))), ("left", .dat (.list ((rowsL ws n leB n).map dRow))), ("right", .dat (.list ((rowsL ws n geB n).map dRow)))] ((bodyOf "law").drop 14) Q) :
    ExJ (lawC p) [("many", .dat (.int (n : Nat))), ("paths", .dat (.list (ws.map dW))), ("spelled", .dat (.list (sps.map DS)))] ((bodyOf "law").drop 11) Q := by
  refine ExJ.cons (SxJ.assignNil (.loc rfl) ?_)
  refine ExJ.cons (SxJ.assignNil (.loc rfl) ?_)
  have hgw : ∀ i, i < n → ws[i]? = some (ws.getD i zeroW) ∧ (ws.getD i zeroW).In 12 := fun i hi => by
    have h1 : ws[i]? = some ws[i] := List.getElem?_eq_getElem (by lia)
    rw [List.getD_eq_getElem?_getD, h1]
    exact ⟨rfl, hwi _ (List.getElem_mem _)⟩
  have hgs : ∀ i, i < n → sps[i]? = some (sps.getD i []) ∧ (sps.getD i []).length ≤ 40 := fun i hi => by
    have h1 : sps[i]? = some sps[i] := List.getElem?_eq_getElem (by lia)
    rw [List.getD_eq_getElem?_getD, h1]
    exact ⟨rfl, hsl _ (List.getElem_mem _)⟩
  refine ExJ.cons (SxJ.forE (ItJ.range (n := n) (EvJ.name rfl) (by lia)) hh (fun ns e => by cases e; exact kept_all (by rfl))
    (fun i => [("left", .own ((rowsL ws n leB i).map dRow)), ("right", .own ((rowsL ws n geB i).map dRow)), ("many", .dat (.int (n : Nat))), ("paths", .dat (.list (ws.map dW))), ("spelled", .dat (.list (sps.map DS)))])
    (.cons rfl (.cons rfl (.cons rfl (.cons rfl (.cons rfl .nil))))) (fun i g hg => ?_) ?_)
  · rw [List.getElem?_map] at hg
    obtain ⟨i', hi', rfl⟩ := Option.map_eq_some_iff.mp hg
    obtain ⟨hil, hie⟩ := List.getElem?_eq_some_iff.mp hi'
    have hii : i' = i := by simpa using hie.symm
    subst hii
    have hin : i' < n := by simpa using hil
    refine ExJ.cons (SxJ.forE (ItJ.range (n := n) (EvJ.name rfl) (by lia)) hh (fun ns e => by cases e; exact kept_all (by rfl))
      (fun j => [("left", .own ((rowsL ws n leB i' ++ rowsIn ws leB i' j).map dRow)), ("right", .own ((rowsL ws n geB i' ++ rowsIn ws geB i' j).map dRow)), ("i", .dat (.int (i' : Nat))), ("many", .dat (.int (n : Nat))), ("paths", .dat (.list (ws.map dW))), ("spelled", .dat (.list (sps.map DS)))])
      ?_ (fun j g hg => ?_) ?_)
    · have e1 : ∀ c, rowsIn ws c i' 0 = [] := fun c => rfl
      rw [e1, e1, List.append_nil, List.append_nil]
      exact .cons rfl (.cons rfl (.cons rfl (.cons rfl (.cons rfl (.cons rfl .nil)))))
    · rw [List.getElem?_map] at hg
      obtain ⟨j', hj', rfl⟩ := Option.map_eq_some_iff.mp hg
      obtain ⟨hjl, hje⟩ := List.getElem?_eq_some_iff.mp hj'
      have hjj : j' = j := by simpa using hje.symm
      subst hjj
      have hjn : j' < n := by simpa using hjl
      obtain ⟨w1, w2⟩ := hgw i' hin
      obtain ⟨w3, w4⟩ := hgw j' hjn
      obtain ⟨s1, s2⟩ := hgs i' hin
      obtain ⟨s3, s4⟩ := hgs j' hjn
      have hpin : (pairW ws i' j').In 24 := times_in w2 w4
      have hft := hF i' j' hin hjn
      have hl1 : (rowsL ws n leB i' ++ rowsIn ws leB i' j').length ≤ 1000 := by
        have h1 := rowsL_len ws n leB i'
        have h2 := rowsIn_len ws leB i' j'
        rw [List.length_append]
        have : i' * n ≤ 9 := by rcases hn with rfl | rfl <;> lia
        lia
      have hl2 : (rowsL ws n geB i' ++ rowsIn ws geB i' j').length ≤ 1000 := by
        have h1 := rowsL_len ws n geB i'
        have h2 := rowsIn_len ws geB i' j'
        rw [List.length_append]
        have : i' * n ≤ 9 := by rcases hn with rfl | rfl <;> lia
        lia
      refine ExJ.cons (SxJ.assign (EvJ.callL (j_times (w2.ok (by lia)) (w4.ok (by lia))) hh (.cons (EvJ.item (i := (i' : Int)) (EvJ.name rfl) (EvJ.name rfl) (by lia) (by rw [Int.toNat_natCast, List.getElem?_map, w1]; rfl) (by lia)) (.cons (EvJ.item (i := (j' : Int)) (EvJ.name rfl) (EvJ.name rfl) (by lia) (by rw [Int.toNat_natCast, List.getElem?_map, w3]; rfl) (by lia)) .nil))) (.loc rfl) ?_)
      refine ExJ.cons (SxJ.assign (EvJ.njoinE hh (EvJ.item (i := (i' : Int)) (d := DS (sps.getD i' [])) (EvJ.name rfl) (EvJ.name rfl) (by lia) (by rw [Int.toNat_natCast, List.getElem?_map, s1]; rfl) (by lia)) (EvJ.item (i := (j' : Int)) (d := DS (sps.getD j' [])) (EvJ.name rfl) (EvJ.name rfl) (by lia) (by rw [Int.toNat_natCast, List.getElem?_map, s3]; rfl) (by lia)) (by lia) (by lia) (by show 3 ≤ 5; lia)) (.loc rfl) ?_)
      rw [hft]
      have hrow : dRow (rowW ws i' j') = .tuple [dK (pairW ws i' j').key, DS (pairW ws i' j').text, dW (pairW ws i' j')] := rfl
      have hpw : (ws.getD i' zeroW).times (ws.getD j' zeroW) = pairW ws i' j' := rfl
      rw [hpw]
      generalize hA : rowsL ws n leB i' ++ rowsIn ws leB i' j' = A at hl1
      generalize hB : rowsL ws n geB i' ++ rowsIn ws geB i' j' = B at hl2
      have sA : rowsL ws n leB i' ++ rowsIn ws leB i' (j' + 1) = A ++ if leB i' j' = true then [rowW ws i' j'] else [] := by rw [rowsIn_succ, ← List.append_assoc, hA]
      have sB : rowsL ws n geB i' ++ rowsIn ws geB i' (j' + 1) = B ++ if geB i' j' = true then [rowW ws i' j'] else [] := by rw [rowsIn_succ, ← List.append_assoc, hB]
      refine ExJ.cons (SxJ.ifs (t := false) (TvJ.as (TvJ.cmp (EvJ.name rfl) (EvJ.callL (j_text (hpin.ok (by lia))) hh (.cons (EvJ.name rfl) .nil)) op_neS) (by simp)) (fun h => by cases h) fun zz1 => ExJ.nil ?_)
      generalize hw0 : pairW ws i' j' = w at hpin hrow
      refine ExJ.cons (SxJ.ifs (t := leB i' j') (TvJ.as (TvJ.cmp (EvJ.name rfl) (EvJ.name rfl) op_leI) (by unfold leB; simp)) (fun h => ?_) fun h => ?_)
      · refine ExJ.cons (SxJ.append rfl (EvJ.tupE (.cons (EvJ.callL (j_key (hpin.ok (by lia)) hpin.2.2.1) hh (.cons (EvJ.name rfl) .nil)) (.cons (EvJ.name rfl) (.cons (EvJ.name rfl) .nil)))) (by simp; lia) (ExJ.nil ?_))
        rw [← hrow]
        refine ExJ.cons (SxJ.ifs (t := geB i' j') (TvJ.as (TvJ.cmp (EvJ.name rfl) (EvJ.name rfl) op_geI) (by unfold geB; simp)) (fun h2 => ?_) fun h2 => ?_)
        · refine ExJ.cons (SxJ.append rfl (EvJ.tupE (.cons (EvJ.callL (j_key (hpin.ok (by lia)) hpin.2.2.1) hh (.cons (EvJ.name rfl) .nil)) (.cons (EvJ.name rfl) (.cons (EvJ.name rfl) .nil)))) (by simp; lia) (ExJ.nil (ExJ.nil ?_)))
          rw [← hrow]
          show Loc.Sub _ _
          rw [sA, sB, if_pos h, if_pos h2, List.map_append, List.map_append]
          exact .cons rfl (.cons rfl (.cons rfl (.cons rfl (.cons rfl (.cons rfl .nil)))))
        · refine ExJ.nil (ExJ.nil ?_)
          show Loc.Sub _ _
          rw [sA, sB, if_pos h, if_neg (by rw [h2]; decide), List.append_nil, List.map_append]
          exact .cons rfl (.cons rfl (.cons rfl (.cons rfl (.cons rfl (.cons rfl .nil)))))
      · refine ExJ.nil ?_
        refine ExJ.cons (SxJ.ifs (t := geB i' j') (TvJ.as (TvJ.cmp (EvJ.name rfl) (EvJ.name rfl) op_geI) (by unfold geB; simp)) (fun h2 => ?_) fun h2 => ?_)
        · refine ExJ.cons (SxJ.append rfl (EvJ.tupE (.cons (EvJ.callL (j_key (hpin.ok (by lia)) hpin.2.2.1) hh (.cons (EvJ.name rfl) .nil)) (.cons (EvJ.name rfl) (.cons (EvJ.name rfl) .nil)))) (by simp; lia) (ExJ.nil (ExJ.nil ?_)))
          rw [← hrow]
          show Loc.Sub _ _
          rw [sA, sB, if_neg (by rw [h]; decide), if_pos h2, List.append_nil, List.map_append]
          exact .cons rfl (.cons rfl (.cons rfl (.cons rfl (.cons rfl (.cons rfl .nil)))))
        · refine ExJ.nil (ExJ.nil ?_)
          show Loc.Sub _ _
          rw [sA, sB, if_neg (by rw [h]; decide), if_neg (by rw [h2]; decide), List.append_nil, List.append_nil]
          exact .cons rfl (.cons rfl (.cons rfl (.cons rfl (.cons rfl (.cons rfl .nil)))))
    · simp only [List.length_map, List.length_range]
      refine ExJ.nil ?_
      show Loc.Sub _ _
      rw [rowsL_succ, rowsL_succ]
      exact .cons rfl (.cons rfl (.cons rfl (.cons rfl (.cons rfl .nil))))
  · simp only [List.length_map, List.length_range]
    refine ExJ.freeze (x := "left") rfl ?_
    refine ExJ.freeze (x := "right") rfl ?_
    exact ExJ.sub next (.cons rfl (.cons rfl (.cons rfl (.cons rfl (.cons rfl .nil)))))
end Mine
end
section
open PySem PySem.W PySem.Calls PyProof.Rows PyProof.V
namespace Mine

noncomputable def txts (l : List Row) : List (List Nat) := l.map fun r => r.2.1
noncomputable def notIn (a b : List Row) : List Row := a.filter fun r => decide (r ∉ b)

theorem txts_asc {l : List Row} (h : ∀ r ∈ l, r.Ok) : ∀ x ∈ txts l, Asc x := fun x hx => by
  obtain ⟨r, hr, rfl⟩ := List.mem_map.mp hx
  exact h r hr
theorem onceL_mem {l : List Row} {r : Row} (h : r ∈ onceL l) : r ∈ l := by
  unfold onceL at h
  obtain ⟨i, hi, rfl⟩ := List.mem_map.mp h
  have hlt : i < l.length := List.mem_range.mp (List.mem_filter.mp hi).1
  rw [List.getD_eq_getElem?_getD, List.getElem?_eq_getElem hlt]
  exact List.getElem_mem hlt
theorem onceL_len (l : List Row) : (onceL l).length ≤ l.length := by
  unfold onceL
  rw [List.length_map]
  exact Nat.le_trans (List.length_filter_le _ _) (by simp)
theorem kq_rows {l : List Row} (h : ∀ r ∈ l, r.Ok) : ∀ d ∈ l.map dRow, kqdOk 8 d = true := fun d hd => by
  obtain ⟨r, hr, rfl⟩ := List.mem_map.mp hd
  exact kq_row (h r hr)

section
variable {C : Cx} {ρ : Loc} {pos px np ep : Pos} {e : Expr} {k : Nat}
theorem EvJ.rowTxt {r : Row} (he : EvJ C ρ e (.dat (dRow r))) : EvJ C ρ (.Subscript e (.Constant (.int 1) k np) pos) (.dat (DS r.2.1)) :=
  EvJ.itemT (i := 1) (ds := [dK r.1, DS r.2.1, dW r.2.2]) he EvJ.intC (by decide) rfl (by decide)
end

set_option maxHeartbeats 8000000 in
theorem law_s4 {p : FnP} (hh : (lawC p).A.handled = none) {n : Nat} {ws : List Way} {sps : List (List Nat)} {L R : List Row} (hL : L.length = 2 ∨ L.length = 3 ∨ L.length = 6) (hR : R.length = 2 ∨ R.length = 3 ∨ R.length = 6) (hLo : ∀ r ∈ L, r.Ok) (hRo : ∀ r ∈ R, r.Ok)
    (hLi : ∀ a ∈ L, ∀ b ∈ L, a.1 = b.1 → a = b) (hRi : ∀ a ∈ R, ∀ b ∈ R, a.1 = b.1 → a = b) {Q : Out → Prop}
    (h1 : (txts (onceL (rsort L))).Pairwise (· < ·) ∧ ∀ x, x ∈ txts (onceL (rsort L)) ↔ x ∈ txts L) (h2 : (txts (onceL (rsort R))).Pairwise (· < ·) ∧ ∀ x, x ∈ txts (onceL (rsort R)) ↔ x ∈ txts R)
    (h3 : sld ((txts (onceL (rsort L))).length + (txts (onceL (rsort R))).length) (txts (onceL (rsort L))) (txts (onceL (rsort R))) = (txts (notIn (onceL (rsort L)) (onceL (rsort R))), txts (notIn (onceL (rsort R)) (onceL (rsort L)))))
    (next : ExJ (lawC p) [("many", .dat (.int (n : Nat))), ("paths", .dat (.list (ws.map dW))), ("spelled", .dat (.list (sps.map DS))), ("left", .dat (.list (L.map dRow))), ("right", .dat (.list (R.map dRow)))] ((bodyOf "law").drop 20) Q) :
    ExJ (lawC p) [("many", .dat (.int (n : Nat))), ("paths", .dat (.list (ws.map dW))), ("spelled", .dat (.list (sps.map DS))), ("left", .dat (.list (L.map dRow))), ("right", .dat (.list (R.map dRow)))] ((bodyOf "law").drop 14) Q := by
  refine ExJ.cons (SxJ.assign (EvJ.callL (j_once hL hLo hLi) hh (.cons (EvJ.name rfl) .nil)) (.cell rfl rfl) ?_)
  refine ExJ.cons (SxJ.assign (EvJ.callL (j_once hR hRo hRi) hh (.cons (EvJ.name rfl) .nil)) (.cell rfl rfl) ?_)
  have ho1 : ∀ r ∈ onceL (rsort L), r.Ok := fun r hr => hLo r (rsort_mem hL r (onceL_mem hr))
  have ho2 : ∀ r ∈ onceL (rsort R), r.Ok := fun r hr => hRo r (rsort_mem hR r (onceL_mem hr))
  have hl1 : (onceL (rsort L)).length ≤ 6 := by have := onceL_len (rsort L); rw [rsort_len hL] at this; lia
  have hl2 : (onceL (rsort R)).length ≤ 6 := by have := onceL_len (rsort R); rw [rsort_len hR] at this; lia
  generalize onceL (rsort L) = A at h1 h3 ho1 hl1 ⊢
  generalize onceL (rsort R) = B at h2 h3 ho2 hl2 ⊢
  have tx : ∀ l : List Row, (l.map fun r => DS r.2.1) = (txts l).map DS := fun l => by unfold txts; rw [List.map_map]; rfl
  refine ExJ.cons (SxJ.assignCompA (xs := A) (g := dRow) (r := fun r => DS r.2.1) (ρ' := []) (ItJ.list (EvJ.name rfl)) hh (Caught.of .nil (by rfl) (by rfl) (by rfl) (by rfl) (by rfl) (by rfl)) (fun q r hr => EvJ.rowTxt (EvJ.name rfl)) (by lia) (.loc rfl) ?_)
  refine ExJ.cons (SxJ.assignCompA (xs := B) (g := dRow) (r := fun r => DS r.2.1) (ρ' := []) (ItJ.list (EvJ.name rfl)) hh (Caught.of .nil (by rfl) (by rfl) (by rfl) (by rfl) (by rfl) (by rfl)) (fun q r hr => EvJ.rowTxt (EvJ.name rfl)) (by lia) (.loc rfl) ?_)
  rw [tx, tx]
  have hta := txts_asc ho1
  have htb := txts_asc ho2
  refine ExJ.cons (SxJ.ifs (t := false) (TvJ.as (TvJ.orT (t := false) (u := false) (TvJ.as (TvJ.cmp (EvJ.name rfl) (EvJ.sortedSetE (ts := txts L) (r := txts A) (tx L ▸ EvJ.compA (xs := L) (g := dRow) (r := fun r => DS r.2.1) (ρ' := []) (ItJ.list (EvJ.name rfl)) hh (Caught.of .nil (by rfl) (by rfl) (by rfl) (by rfl) (by rfl) (by rfl)) (fun q r hr => EvJ.rowTxt (EvJ.name rfl)) (by lia)) hh (by unfold txts; rw [List.length_map]; lia) h1.1 h1.2) (op_neL (xs := txts A) (ys := txts A) (t := true) hta hta (by simp))) rfl)
    fun zz1 => TvJ.as (TvJ.orT (t := false) (u := false) (TvJ.as (TvJ.cmp (EvJ.name rfl) (EvJ.sortedSetE (ts := txts R) (r := txts B) (tx R ▸ EvJ.compA (xs := R) (g := dRow) (r := fun r => DS r.2.1) (ρ' := []) (ItJ.list (EvJ.name rfl)) hh (Caught.of .nil (by rfl) (by rfl) (by rfl) (by rfl) (by rfl) (by rfl)) (fun q r hr => EvJ.rowTxt (EvJ.name rfl)) (by lia)) hh (by unfold txts; rw [List.length_map]; lia) h2.1 h2.2) (op_neL (xs := txts B) (ys := txts B) (t := true) htb htb (by simp))) rfl) fun zz1 => .orNil) rfl) rfl) (fun h => by cases h) fun zz1 => ExJ.nil ?_)
  have hni : ∀ (u v : List Row), (u.filter fun r => decide (r ∉ v)).map (fun r => DS r.2.1) = (txts (notIn u v)).map DS := fun u v => tx (notIn u v)
  have hkA := kq_rows ho1
  have hkB := kq_rows ho2
  have hnl : ∀ u v : List Row, (txts (notIn u v)).length ≤ u.length := fun u v => by
    unfold txts notIn
    rw [List.length_map]
    exact List.length_filter_le _ _
  have hnin : ∀ {u v : List Row}, (∀ r ∈ u, r.Ok) → ∀ x ∈ txts (notIn u v), Asc x := fun {u v} hu x hx => by
    obtain ⟨r, hr, rfl⟩ := List.mem_map.mp hx
    exact hu r (List.mem_filter.mp hr).1
  have kq : ∀ zs : List (List Nat), (∀ z ∈ zs, Asc z) → kqdOk 7 (.list (zs.map DS)) = true := fun zs hz => by
    show ((zs.map DS).all (kqdOk 6)) = true
    rw [List.all_eq_true]
    intro d hd
    obtain ⟨z, hz', rfl⟩ := List.mem_map.mp hd
    exact kq_str (hz z hz') 6
  have kq2 : ∀ xs ys : List (List Nat), (∀ z ∈ xs, Asc z) → (∀ z ∈ ys, Asc z) → kqdOk 8 (.tuple [.list (xs.map DS), .list (ys.map DS)]) = true := fun xs ys hx hy => by
    show ([Dat.list (xs.map DS), .list (ys.map DS)].all (kqdOk 7)) = true
    rw [List.all_cons, List.all_cons, kq xs hx, kq ys hy]; rfl
  have hsld := j_sld (txts A) (txts B) (by unfold txts; rw [List.length_map]; lia) (by unfold txts; rw [List.length_map]; lia)
  rw [h3] at hsld
  refine ExJ.cons (SxJ.ifs (t := false) (TvJ.as (TvJ.cmp (EvJ.callL hsld hh (.cons (EvJ.name rfl) (.cons (EvJ.name rfl) .nil)))
    (EvJ.tupE (ds := [.list ((txts (notIn A B)).map DS), .list ((txts (notIn B A)).map DS)]) (.cons (hni A B ▸ EvJ.compE (xs := A) (g := dRow) (r := fun r => DS r.2.1) (p := fun r => decide (r ∉ B)) (ρ' := [("others", .dat (.list (B.map dRow)))]) (ItJ.list (EvJ.name rfl)) hh (Caught.of (.dat rfl (by rfl) (by rfl) .nil) (by rfl) (by rfl) (by rfl) (by rfl) (by rfl) (by rfl)) (fun q r hr => ⟨.one (TvJ.as (TvJ.cmp (EvJ.name rfl) (EvJ.name rfl) (op_notInD (t := decide (r ∈ B)) (kq_row (ho1 r hr)) hkB ?_)) ?_), fun zz1 => EvJ.rowTxt (EvJ.name rfl)⟩) (by lia))
      (.cons (hni B A ▸ EvJ.compE (xs := B) (g := dRow) (r := fun r => DS r.2.1) (p := fun r => decide (r ∉ A)) (ρ' := [("ones", .dat (.list (A.map dRow)))]) (ItJ.list (EvJ.name rfl)) hh (Caught.of (.dat rfl (by rfl) (by rfl) .nil) (by rfl) (by rfl) (by rfl) (by rfl) (by rfl) (by rfl)) (fun q r hr => ⟨.one (TvJ.as (TvJ.cmp (EvJ.name rfl) (EvJ.name rfl) (op_notInD (t := decide (r ∈ A)) (kq_row (ho2 r hr)) hkA ?_)) ?_), fun zz1 => EvJ.rowTxt (EvJ.name rfl)⟩) (by lia)) .nil)))
    (op_neD (t := true) (kq2 _ _ (hnin ho1) (hnin ho2)) (kq2 _ _ (hnin ho1) (hnin ho2)) (by simp))) rfl) (fun h => by cases h) fun zz1 => ExJ.nil ?_)
  · rw [decide_eq_true_iff]
    exact ⟨fun h => List.mem_map.mpr ⟨r, h, rfl⟩, fun h => by
      obtain ⟨r', h', e⟩ := List.mem_map.mp h
      exact dRow_inj.mp e ▸ h'⟩
  · simp
  · rw [decide_eq_true_iff]
    exact ⟨fun h => List.mem_map.mpr ⟨r, h, rfl⟩, fun h => by
      obtain ⟨r', h', e⟩ := List.mem_map.mp h
      exact dRow_inj.mp e ▸ h'⟩
  · simp
  · exact ExJ.sub next (.cons rfl (.cons rfl (.cons rfl (.cons rfl (.cons rfl .nil)))))
end Mine
end
section
open PySem PySem.W PySem.Calls PyProof.Rows PyProof.V
namespace Mine

theorem bi_intB {t : Bool} : Bi (.type "int") [.bool t] (.int (if t then 1 else 0)) := fun C X Φ ρ f s vs hh H h => by
  obtain ⟨v, rfl, h0⟩ := datAll1 h
  cases h0
  exact call_int_bool ⟨Φ, fun zz1 h => h, H.toks _, .int _ _⟩
theorem bi_all {bs : List Bool} : Bi (.builtin "all") [.list (bs.map .bool)] (.bool (bs.all id)) := fun C X Φ ρ f s vs hh H h => by
  obtain ⟨v, rfl, h0⟩ := datAll1 h
  obtain ⟨l, us, n, rfl, hm, hD⟩ := DatIn.listInv h0
  have hlen := hD.length
  have ho := H.led _ hm
  have hL : s.heap.IsList l us.toArray := ⟨_, ho, rfl, _, rfl⟩
  have hne : l ≠ s.heap.objs.size := Nat.ne_of_lt (Heap.lt_size ho)
  refine call_all_walk (wpAny_pyIter_list hL ⟨s.heap.objs.size, _, _, _, _, _, fun i => bs.getD i false, rfl, Walks.list (A := C.A.in1) hh _ l hne us.toArray, ⟨⟨_, Heap.get?_push_size _ rfl, rfl, rfl⟩, ⟨_, Heap.get?_push_of_some _ ho, rfl, _, rfl⟩⟩, fun i v s' Q E hp hq => ?_, fun h' tk k => ?_⟩)
  · have hu : us[i]? = some v := by simpa using hp
    have hil : i < us.length := (List.getElem?_eq_some_iff.mp hu).1
    have hb : (bs.map Dat.bool)[i]? = some (.bool (bs.getD i false)) := by
      rw [List.getElem?_map, List.getElem?_eq_getElem (by rw [hlen, List.length_map] at hil; exact hil), List.getD_eq_getElem?_getD, List.getElem?_eq_getElem (by rw [hlen, List.length_map] at hil; exact hil)]; rfl
    obtain ⟨v', h1, h2⟩ := datAll_get? hD hb
    rw [hu] at h1
    cases h1
    cases h2
    exact wpAny_truthy_bool hq
  · refine ⟨Φ, fun zz1 h => h, AtM.keeps H (s' := { s with heap := h', toks := tk }) (fun b o e => k b o (fun hb => ?_) (Heap.get?_push_of_some _ e)) rfl rfl, ?_⟩
    · have := Heap.lt_size e
      rw [mem1 hb] at this
      exact Nat.lt_irrefl _ this
    · have e1 : (List.range us.toArray.size).all (fun i => bs.getD i false) = bs.all id := by
        rw [List.size_toArray, hlen, List.length_map]
        have : bs = (List.range bs.length).map fun i => bs.getD i false := by
          refine List.ext_getElem (by simp) fun j h1 h2 => ?_
          simp [List.getD_eq_getElem?_getD, h1]
        conv => rhs; rw [this, List.all_map]
        rfl
      rw [e1]
      exact .bool _

theorem asc_shared {a b : Way} {l : List Nat} (h : sharedL a b = some l) : Asc l := by
  unfold sharedL at h
  split at h
  · cases h
  · split at h
    · cases h
      exact asc_join fun x hx => by rw [List.eq_of_mem_replicate hx]; exact fun c hc => by simp at hc; lia
    · cases h
      exact asc_app (asc_rep (by decide)) (asc_join (asc_names _))
theorem kq_dO {o : Option (List Nat)} (h : ∀ l, o = some l → Asc l) : kqdOk 8 (dO o) = true := by
  cases o with
  | none => rfl
  | some l => exact kq_str (h l rfl) 8

set_option maxHeartbeats 8000000 in
theorem law_s5 {p : FnP} (hh : (lawC p).A.handled = none) {n : Nat} {ws : List Way} {sps : List (List Nat)} {L R : List Row} (hn : n = 2 ∨ n = 3) (hw : ws.length = n) (hs : sps.length = n) (hwi : ∀ w ∈ ws, w.In 12) (hsl : ∀ x ∈ sps, x.length ≤ 40)
    (hLo : ∀ r ∈ L, r.Ok ∧ r.2.2.In 24 ∧ r.2.1.length ≤ 900) (hRo : ∀ r ∈ R, r.Ok ∧ r.2.2.In 24 ∧ r.2.1.length ≤ 900) (hLl : L.length ≤ 9)
    (h1 : ∀ q ∈ L.zip R, ((if q.2.2.1 < q.1.2.1 then (1 : Int) else 0) - if q.1.2.1 < q.2.2.1 then 1 else 0) = if q.1.1 < q.2.1 then -1 else if q.1.1 = q.2.1 then 0 else 1)
    (h2 : ∀ q ∈ L.zip R, (if (q.1.2.1.head? = some 47 ↔ q.2.2.1.head? = some 47) then DS (commonL q.1.2.1 q.2.2.1) else .none) = dO (sharedL q.1.2.2 q.2.2.2))
    (h3 : ∀ i, i < n → seenB (ws.getD i zeroW) (sps.getD i []) = true) :
    ExJ (lawC p) [("many", .dat (.int (n : Nat))), ("paths", .dat (.list (ws.map dW))), ("spelled", .dat (.list (sps.map DS))), ("left", .dat (.list (L.map dRow))), ("right", .dat (.list (R.map dRow)))] ((bodyOf "law").drop 20) (RetIs (.dat (.bool true))) := by
  refine ExJ.cons (SxJ.forE (ItJ.zip (ds := L.map dRow) (es := R.map dRow) (EvJ.name rfl) (EvJ.name rfl)) hh (fun ns e => by cases e; exact kept_all (by rfl))
    (fun zz1 => [("many", .dat (.int (n : Nat))), ("paths", .dat (.list (ws.map dW))), ("spelled", .dat (.list (sps.map DS)))])
    (.cons rfl (.cons rfl (.cons rfl .nil))) (fun i g hg => ?_) ?_)
  · rw [List.getElem?_map, List.zip_map, List.getElem?_map] at hg
    obtain ⟨d, hd, rfl⟩ := Option.map_eq_some_iff.mp hg
    obtain ⟨⟨r, r2⟩, hq, rfl⟩ := Option.map_eq_some_iff.mp hd
    have hqm : (r, r2) ∈ L.zip R := List.mem_of_getElem? hq
    have hr := hLo r (List.of_mem_zip hqm).1
    have hr2 := hRo r2 (List.of_mem_zip hqm).2
    have k1 : ∀ {ρ : Loc} {e : Expr} {r : Row} {k : Nat} {q1 q2 : Pos}, EvJ (lawC p) ρ e (.dat (dRow r)) → EvJ (lawC p) ρ (.Subscript e (.Constant (.int 0) k q1) q2) (.dat (dK r.1)) := fun {ρ e r k q1 q2} he =>
      EvJ.itemT (i := 0) (ds := [dK r.1, DS r.2.1, dW r.2.2]) he EvJ.intC (by decide) rfl (by decide)
    have k3 : ∀ {ρ : Loc} {e : Expr} {r : Row} {k : Nat} {q1 q2 : Pos}, EvJ (lawC p) ρ e (.dat (dRow r)) → EvJ (lawC p) ρ (.Subscript e (.Constant (.int 2) k q1) q2) (.dat (dW r.2.2)) := fun {ρ e r k q1 q2} he =>
      EvJ.itemT (i := 2) (ds := [dK r.1, DS r.2.1, dW r.2.2]) he EvJ.intC (by decide) rfl (by decide)
    have e1 := h1 _ hqm
    have e2 := h2 _ hqm
    dsimp only at e1 e2
    refine ExJ.cons (SxJ.ifs (t := false) (TvJ.as (TvJ.cmp (EvJ.callL (j_cmp r.2.1 r2.2.1) hh (.cons (EvJ.rowTxt (EvJ.name rfl)) (.cons (EvJ.rowTxt (EvJ.name rfl)) .nil)))
      (EvJ.iteE (av₁ := .dat (.int (if r.1 < r2.1 then -1 else if r.1 = r2.1 then 0 else 1))) (TvJ.cmp (k1 (EvJ.name rfl)) (k1 (EvJ.name rfl)) op_ltK) (fun h => ?_) (fun h => ?_)) op_neI) ?_) (fun h => by cases h) fun zz1 => ExJ.nil ?_)
    · have h' : r.1 < r2.1 := of_decide_eq_true h
      rw [if_pos h']
      exact EvJ.unop EvJ.intC op_usub
    · have h' : ¬ r.1 < r2.1 := of_decide_eq_false h
      rw [if_neg h']
      have e3 : (if r.1 = r2.1 then (0 : Int) else 1) = if (!decide (r.1 = r2.1)) = true then 1 else 0 := by by_cases q : r.1 = r2.1 <;> simp [q]
      rw [e3]
      exact EvJ.callB bi_intB hh (.cons (EvJ.cmp (k1 (EvJ.name rfl)) (k1 (EvJ.name rfl)) (op_neD (t := decide (r.1 = r2.1)) (kq_ints r.1 7) (kq_ints r2.1 7) (by rw [decide_eq_true_iff]; exact dK_inj.symm))) .nil)
    · rw [e1]; simp
    · have hcm := j_common hr.1 hr2.1 hr.2.2 hr2.2.2
      rw [e2] at hcm
      refine ExJ.cons (SxJ.ifs (t := false) (TvJ.as (TvJ.cmp (EvJ.callL hcm hh (.cons (EvJ.rowTxt (EvJ.name rfl)) (.cons (EvJ.rowTxt (EvJ.name rfl)) .nil)))
        (EvJ.callL (j_shared (hr.2.1.ok (by lia)) (hr2.2.1.ok (by lia))) hh (.cons (k3 (EvJ.name rfl)) (.cons (k3 (EvJ.name rfl)) .nil))) (op_neD (t := true) (kq_dO fun l h => asc_shared h) (kq_dO fun l h => asc_shared h) (by simp))) rfl) (fun h => by cases h) fun zz1 => ExJ.nil (ExJ.nil ?_))
      exact .cons rfl (.cons rfl (.cons rfl .nil))
  · have hgw : ∀ i, i < n → ws[i]? = some (ws.getD i zeroW) ∧ (ws.getD i zeroW).In 12 := fun i hi => by
      have h1 : ws[i]? = some ws[i] := List.getElem?_eq_getElem (by lia)
      rw [List.getD_eq_getElem?_getD, h1]
      exact ⟨rfl, hwi _ (List.getElem_mem _)⟩
    have hgs : ∀ i, i < n → sps[i]? = some (sps.getD i []) ∧ (sps.getD i []).length ≤ 40 := fun i hi => by
      have h1 : sps[i]? = some sps[i] := List.getElem?_eq_getElem (by lia)
      rw [List.getD_eq_getElem?_getD, h1]
      exact ⟨rfl, hsl _ (List.getElem_mem _)⟩
    have hall : (((List.range n).map fun zz1 => true) : List Bool).all id = true := by simp
    have hm : ((List.range n).map fun i => Dat.bool true) = ((List.range n).map fun zz1 => true).map Dat.bool := by rw [List.map_map]; rfl
    refine ExJ.cons (SxJ.ret (av := .dat (.bool true)) (hall ▸ EvJ.callB bi_all hh (.cons (hm ▸ EvJ.compA (xs := List.range n) (g := fun i => .int (i : Nat)) (r := fun zz1 => .bool true) (ρ' := [("paths", .dat (.list (ws.map dW))), ("spelled", .dat (.list (sps.map DS)))]) (by rw [List.map_map]; exact ItJ.range (EvJ.name rfl) (by lia)) hh
      (Caught.of (.dat rfl (by rfl) (by rfl) (.dat rfl (by rfl) (by rfl) .nil)) (by rfl) (by rfl) (by rfl) (by rfl) (by rfl) (by rfl)) (fun q i hi => ?_) (by simp; lia)) .nil)) rfl)
    have hin : i < n := List.mem_range.mp hi
    obtain ⟨w1, w2⟩ := hgw i hin
    obtain ⟨s1, s2⟩ := hgs i hin
    have hseen := j_seen (sp := sps.getD i []) (w2.ok (by lia)) (by have := w2.2.1; have := w2.2.2.1; lia) (by lia)
    rw [h3 i hin] at hseen
    refine EvJ.callL hseen hh (.cons (EvJ.item (i := (i : Int)) (EvJ.name rfl) (EvJ.name rfl) (by lia) (by rw [Int.toNat_natCast, List.getElem?_map, w1]; rfl) (by lia)) (.cons (EvJ.item (i := (i : Int)) (d := DS (sps.getD i [])) (EvJ.name rfl) (EvJ.name rfl) (by lia) (by rw [Int.toNat_natCast, List.getElem?_map, s1]; rfl) (by lia)) .nil))
end Mine
end
section
open PySem PySem.W PySem.Calls PyProof.Rows PyProof.V
namespace Mine

theorem enterLaw {w : World} {mg mb : Str → Option Value} {h₁ : Heap} {s₁ : Shared} {tk : Nat} {fa a : Addr} {cd : Value} {cells : List (Addr × Obj)}
    (W : Wd w mg mb s₁.heap)
    (F : Fr s₁.heap s₁.heap.objs.size h₁ (bindL (fnEnv "law" (scopeOf "law") s₁.heap.objs.size fa cd).kindOf [("script", .ref a)] fun zz1 => none))
    (N : News s₁.heap s₁.heap.objs.size h₁ cells)
    (Y : CellsAre (bindC (fnEnv "law" (scopeOf "law") s₁.heap.objs.size fa cd).kindOf [("script", .ref a)] fun zz1 => none) (cellsFrom (s₁.heap.objs.size + 1) (scopeOf "law").names []) cells) :
    At (lawC ⟨w, mg, mb, s₁.heap, s₁.heap, [], s₁.heap.objs.size, fa, cd, [], callerA, s₁.gens, s₁.os⟩) [] [] [("script", .val (.ref a))] { heap := h₁, gens := s₁.gens, drawn := s₁.drawn, toks := tk, os := s₁.os } := by
  have ok := cellsFrom_ok (scopeOf "law").names (s₁.heap.push { cls := .type "frame", data := .dict #[] }) (s₁.heap.objs.size + 1) [] ⟨fun zz1 zz2 hm => (nomatch hm), List.Pairwise.nil⟩ (by rw [Heap.size_push]; exact Nat.le_refl _)
  rw [Heap.size_push] at ok
  have hap := ok.apart
  have hab : ∀ n c, (n, c) ∈ cellsFrom (s₁.heap.objs.size + 1) (scopeOf "law").names [] → s₁.heap.objs.size < c := fun n c hm => (ok.empty n c hm).2
  have hcn : ((cellsFrom 0 (scopeOf "law").names []).map (·.1)).Nodup := by decide +kernel
  have cl := Cl.of_news (own := []) N Y hap hab
  have lk : ∀ n c, (n, c) ∈ cellsFrom (s₁.heap.objs.size + 1) (scopeOf "law").names [] → (cellsFrom (s₁.heap.objs.size + 1) (scopeOf "law").names []).lookup n = some c := fun n c hm =>
    lookup_of_mem_nodup (cellsFrom_names (scopeOf "law").names 0 (s₁.heap.objs.size + 1) [] [] rfl ▸ hcn) hm
  refine ⟨⟨bindL (fnEnv "law" (scopeOf "law") s₁.heap.objs.size fa cd).kindOf [("script", .ref a)] fun zz1 => none, []⟩, ?_⟩
  refine
    { ok :=
        { wd := W, kind := rfl, glob := rfl, blt := rfl, stk := (Around.frames_deeper rfl)
          two := fun b hb => ?_, fsd := fun b hb => absurd hb List.not_mem_nil, frame := ⟨_, rfl, rfl⟩, room := ?_, cel := fun y hy => ?_, inj := fun y z c h1 h2 => ?_ }
      fr := F
      baseIn := fun b o e => e, keep := .of F.keep
      stk := fun env he => ?_, led := fun zz1 h => absurd h List.not_mem_nil, seq := fun zz1 h => absurd h List.not_mem_nil, ledm := fun zz1 h => absurd h List.not_mem_nil, xtr := fun zz1 h => absurd h List.not_mem_nil, xtrm := fun zz1 h => absurd h List.not_mem_nil, xled := fun zz1 h => absurd h List.not_mem_nil, xnew := fun zz1 h => absurd h List.not_mem_nil, xcel := fun zz1 h => absurd h List.not_mem_nil, xnd := .nil
      src := fun zz1 h => absurd h List.not_mem_nil, own := fun zz1 h => absurd h List.not_mem_nil, cells := fun q hq => ⟨_, cl.cell q.1 q.2 (lk _ _ hq)⟩, nodup := ?_, nms := .nil
      fresh := fun b hb => ?_, loc := fun y av e => ?_, gens := rfl, os := rfl }
  · simp only [frs, fnC, List.filterMap_cons, show (fnEnv "law" (scopeOf "law") s₁.heap.objs.size fa cd).frame = some s₁.heap.objs.size from rfl] at hb
    rcases List.mem_cons.mp hb with e | e
    · exact .inl e
    · cases e
  · simp only [fnC, Around.deeper_units]
    refine ⟨?_, ?_⟩
    · show callerA.depth + 1 + 5 ≤ 900
      decide +kernel
    · show callerA.units + 3 + 20 * 5 + 200 ≤ cLine
      decide +kernel
  · obtain ⟨c, hc⟩ := Option.isSome_iff_exists.mp (cellsFrom_some (scopeOf "law").names (s₁.heap.objs.size + 1) [] (.inl hy))
    exact ⟨c, hc⟩
  · exact name_of_addr hap (mem_of_lookup h1) (mem_of_lookup h2)
  · rcases List.mem_cons.mp he with rfl | he
    · obtain ⟨o, es, n, ho, hd, _⟩ := F.ns
      refine ⟨by show (scopeOf "law").kind ≠ .module; decide +kernel, s₁.heap.objs.size, o, es, n, rfl, ?_, ho, hd⟩
      exact Heap.get?_none_of_le (Nat.le_refl _)
    · cases he
  · simp only [muts, List.map_nil, List.append_nil]
    refine List.nodup_cons.mpr ⟨fun hm => ?_, ?_⟩
    · obtain ⟨q, hq, e⟩ := List.mem_map.mp hm
      have h2 : s₁.heap.objs.size < q.2 := hab q.1 q.2 hq
      have e' : q.2 = s₁.heap.objs.size := e
      exact absurd (e' ▸ h2) (Nat.lt_irrefl _)
    · exact List.pairwise_map.mpr hap
  · refine Heap.get?_none_of_le ?_
    show s₁.heap.objs.size ≤ b
    simp only [muts, List.map_nil, List.append_nil] at hb
    rcases List.mem_cons.mp hb with e | e
    · exact Nat.le_of_eq e.symm
    · obtain ⟨q, hq, e⟩ := List.mem_map.mp e
      have h2 : s₁.heap.objs.size < q.2 := hab q.1 q.2 hq
      have e' : q.2 = b := e
      exact Nat.le_of_lt (e' ▸ h2)
  · rw [List.lookup_cons] at e
    cases hb : y == ("script" : Str) with
    | false => rw [hb] at e; cases e
    | true =>
      rw [hb] at e
      cases e
      have := beq_iff_eq.mp hb
      subst this
      exact ⟨_, .inl ⟨rfl, rfl⟩, rfl⟩
end Mine
end
section
open PySem PySem.W PySem.Calls PyProof.Rows PyProof.V
namespace Mine

noncomputable def zw : Way := ⟨0, 0, 0, 0⟩
theorem p16pos (k : Nat) : 0 < 16 ^ k := Nat.pow_pos (by decide)
theorem times_zero (a : Way) : a.times zeroW = a := by
  unfold Way.times zeroW
  simp
theorem zero_times (b : Way) : zeroW.times b = b := by
  obtain ⟨r, u, c, v⟩ := b
  unfold Way.times zeroW
  by_cases h : r = 0
  · subst h
    by_cases h2 : u = 0
    · subst h2; simp
    · simp [h2]
  · simp [h]
theorem div_mul_pow (x v cb uc : Nat) (h : uc ≤ cb) : (x * 16 ^ cb + v) / 16 ^ uc = x * 16 ^ (cb - uc) + v / 16 ^ uc := by
  have e : 16 ^ cb = 16 ^ (cb - uc) * 16 ^ uc := by rw [← Nat.pow_add, Nat.sub_add_cancel h]
  rw [e, ← Nat.mul_assoc, Nat.add_comm, Nat.add_mul_div_right _ _ (p16pos uc), Nat.add_comm]
theorem div_big (x v cb uc : Nat) (hv : v < 16 ^ cb) (h : cb ≤ uc) : (x * 16 ^ cb + v) / 16 ^ uc = x / 16 ^ (uc - cb) := by
  have e : 16 ^ uc = 16 ^ cb * 16 ^ (uc - cb) := by rw [← Nat.pow_add, Nat.add_sub_cancel' h]
  rw [e, ← Nat.div_div_eq_div_mul, Nat.add_comm, Nat.add_mul_div_right _ _ (p16pos cb), Nat.div_eq_of_lt hv, Nat.zero_add]
theorem times_root {a b : Way} (h : b.root ≠ 0) : a.times b = b := if_pos h
theorem times_on {a b : Way} (h : b.root = 0) (h1 : b.up ≤ a.cnt) : a.times b = ⟨a.root, a.up, a.cnt - b.up + b.cnt, a.val / 16 ^ b.up * 16 ^ b.cnt + b.val⟩ := (if_neg (fun q => q h)).trans (if_pos h1)
theorem times_cut {a b : Way} (h : b.root = 0) (h1 : ¬ b.up ≤ a.cnt) (h2 : a.root ≠ 0) : a.times b = ⟨a.root, 0, b.cnt, b.val⟩ := (if_neg (fun q => q h)).trans ((if_neg h1).trans (if_pos h2))
theorem times_up {a b : Way} (h : b.root = 0) (h1 : ¬ b.up ≤ a.cnt) (h2 : a.root = 0) : a.times b = ⟨0, a.up + b.up - a.cnt, b.cnt, b.val⟩ := (if_neg (fun q => q h)).trans ((if_neg h1).trans (if_neg (fun q => q h2)))
theorem way_ext {r u c v r' u' c' v' : Nat} (h1 : r = r') (h2 : u = u') (h3 : c = c') (h4 : v = v') : (⟨r, u, c, v⟩ : Way) = ⟨r', u', c', v'⟩ := by subst h1 h2 h3 h4; rfl
theorem assoc_n1 {ca ub cb uc cc : Nat} (h1 : ub ≤ ca) (h2 : uc ≤ cb) : ca - ub + cb - uc + cc = ca - ub + (cb - uc + cc) ∧ uc ≤ ca - ub + cb := by lia
theorem assoc_n2 {ca ub cb uc cc : Nat} (h1 : ub ≤ ca) (h2 : ¬ uc ≤ cb) (h3 : uc ≤ ca - ub + cb) : ca - ub + cb - uc + cc = ca - (ub + uc - cb) + cc ∧ ub + uc - cb ≤ ca ∧ ub + (uc - cb) = ub + uc - cb ∧ cb ≤ uc := by lia
theorem assoc_n3 {ca ub cb uc : Nat} (h1 : ub ≤ ca) (h2 : ¬ uc ≤ cb) (h3 : ¬ uc ≤ ca - ub + cb) (ua : Nat) : ¬ ub + uc - cb ≤ ca ∧ ua + uc - (ca - ub + cb) = ua + (ub + uc - cb) - ca := by lia
theorem assoc_n4 {ca ub cb uc : Nat} (h1 : ¬ ub ≤ ca) (h2 : ¬ uc ≤ cb) (ua : Nat) : ¬ ub + uc - cb ≤ ca ∧ ua + ub - ca + uc - cb = ua + (ub + uc - cb) - ca := by lia
theorem assoc_v {va vb ub cb uc cc vc : Nat} (h2 : uc ≤ cb) : (va / 16 ^ ub * 16 ^ cb + vb) / 16 ^ uc * 16 ^ cc + vc = va / 16 ^ ub * 16 ^ (cb - uc + cc) + (vb / 16 ^ uc * 16 ^ cc + vc) := by
  rw [div_mul_pow _ _ _ _ h2, Nat.pow_add, Nat.add_mul, Nat.mul_assoc, Nat.add_assoc]
theorem times_assoc {a b c : Way} (hb : b.val < 16 ^ b.cnt) : (a.times b).times c = a.times (b.times c) := by
  by_cases hc : c.root = 0
  · by_cases hb0 : b.root = 0
    · by_cases h1 : b.up ≤ a.cnt
      · rw [times_on hb0 h1]
        by_cases h2 : c.up ≤ b.cnt
        · have h3 := assoc_n1 (cc := c.cnt) h1 h2
          rw [times_on hc h2, times_on hc h3.2]
          refine Eq.trans (way_ext rfl rfl h3.1 (assoc_v h2)) (Eq.symm ?_)
          exact times_on (b := ⟨b.root, b.up, b.cnt - c.up + c.cnt, b.val / 16 ^ c.up * 16 ^ c.cnt + c.val⟩) hb0 h1
        · by_cases h3 : c.up ≤ a.cnt - b.up + b.cnt
          · have h4 := assoc_n2 (cc := c.cnt) h1 h2 h3
            rw [times_up hc h2 hb0, times_on hc h3]
            refine Eq.trans ?_ (times_on rfl h4.2.1).symm
            refine way_ext rfl rfl h4.1 ?_
            show (a.val / 16 ^ b.up * 16 ^ b.cnt + b.val) / 16 ^ c.up * 16 ^ c.cnt + c.val = a.val / 16 ^ (b.up + c.up - b.cnt) * 16 ^ c.cnt + c.val
            rw [div_big _ _ _ _ hb h4.2.2.2, Nat.div_div_eq_div_mul, ← Nat.pow_add, h4.2.2.1]
          · have h4 := assoc_n3 h1 h2 h3 a.up
            rw [times_up hc h2 hb0]
            by_cases hr : a.root = 0
            · exact Eq.trans (times_up (a := ⟨a.root, a.up, _, _⟩) hc h3 hr) (Eq.trans (way_ext rfl h4.2 rfl rfl) (times_up (b := ⟨0, b.up + c.up - b.cnt, c.cnt, c.val⟩) rfl h4.1 hr).symm)
            · exact Eq.trans (times_cut (a := ⟨a.root, a.up, _, _⟩) hc h3 hr) (times_cut (b := ⟨0, b.up + c.up - b.cnt, c.cnt, c.val⟩) rfl h4.1 hr).symm
      · by_cases hr : a.root = 0
        · rw [times_up hb0 h1 hr]
          by_cases h2 : c.up ≤ b.cnt
          · rw [times_on hc h2]
            exact Eq.trans (times_on (a := ⟨0, a.up + b.up - a.cnt, b.cnt, b.val⟩) hc h2) (times_up (b := ⟨b.root, b.up, b.cnt - c.up + c.cnt, b.val / 16 ^ c.up * 16 ^ c.cnt + c.val⟩) hb0 h1 hr).symm
          · have h4 := assoc_n4 h1 h2 a.up
            rw [times_up hc h2 hb0]
            exact Eq.trans (times_up (a := ⟨0, a.up + b.up - a.cnt, b.cnt, b.val⟩) hc h2 rfl) (Eq.trans (way_ext rfl h4.2 rfl rfl) (times_up (b := ⟨0, b.up + c.up - b.cnt, c.cnt, c.val⟩) rfl h4.1 hr).symm)
        · rw [times_cut hb0 h1 hr]
          by_cases h2 : c.up ≤ b.cnt
          · rw [times_on hc h2]
            exact Eq.trans (times_on (a := ⟨a.root, 0, b.cnt, b.val⟩) hc h2) (times_cut (b := ⟨b.root, b.up, b.cnt - c.up + c.cnt, b.val / 16 ^ c.up * 16 ^ c.cnt + c.val⟩) hb0 h1 hr).symm
          · have h4 := assoc_n4 h1 h2 a.up
            rw [times_up hc h2 hb0]
            exact Eq.trans (times_cut (a := ⟨a.root, 0, b.cnt, b.val⟩) hc h2 hr) (times_cut (b := ⟨0, b.up + c.up - b.cnt, c.cnt, c.val⟩) rfl h4.1 hr).symm
    · rw [times_root (a := a) hb0]
      refine (times_root ?_).symm
      by_cases h2 : c.up ≤ b.cnt
      · rw [times_on hc h2]; exact hb0
      · rw [times_cut hc h2 hb0]; exact hb0
  · rw [times_root hc, times_root hc, times_root hc]

noncomputable def Way.Nrm (w : Way) : Prop := w.root ≤ 2 ∧ (w.root ≠ 0 → w.up = 0) ∧ w.val < 16 ^ w.cnt
theorem times_val {a b : Way} (ha : a.val < 16 ^ a.cnt) (hb : b.val < 16 ^ b.cnt) : (a.times b).val < 16 ^ (a.times b).cnt := by
  unfold Way.times
  split
  · exact hb
  · split
    · rename_i h1 h2
      show a.val / 16 ^ b.up * 16 ^ b.cnt + b.val < 16 ^ (a.cnt - b.up + b.cnt)
      have h3 : a.val / 16 ^ b.up < 16 ^ (a.cnt - b.up) := by
        rw [Nat.div_lt_iff_lt_mul (p16pos _), ← Nat.pow_add, Nat.sub_add_cancel h2]
        exact ha
      rw [Nat.pow_add]
      calc a.val / 16 ^ b.up * 16 ^ b.cnt + b.val < a.val / 16 ^ b.up * 16 ^ b.cnt + 16 ^ b.cnt := by lia
        _ = (a.val / 16 ^ b.up + 1) * 16 ^ b.cnt := by rw [Nat.add_mul, Nat.one_mul]
        _ ≤ 16 ^ (a.cnt - b.up) * 16 ^ b.cnt := Nat.mul_le_mul_right _ h3
    · split
      · exact hb
      · exact hb
theorem times_nrm {a b : Way} (ha : a.Nrm) (hb : b.Nrm) : (a.times b).Nrm := by
  obtain ⟨a1, a2, a3⟩ := ha
  obtain ⟨b1, b2, b3⟩ := hb
  refine ⟨?_, ?_, times_val a3 b3⟩
  · unfold Way.times
    split
    · exact b1
    · split
      · exact a1
      · split
        · exact a1
        · exact Nat.zero_le _
  · unfold Way.times
    split
    · exact b2
    · split
      · exact a2
      · split
        · exact fun zz1 => rfl
        · exact fun h => absurd rfl h
theorem zero_nrm : zeroW.Nrm := ⟨by simp [zeroW], fun zz1 => rfl, by simp [zeroW]⟩

noncomputable def unit (c : List Nat) : Way :=
  if c = [] ∨ c = [46] then zeroW else if c = [46, 46] then ⟨0, 1, 0, 0⟩ else ⟨0, 0, 1, c.headD 0 - 65⟩
noncomputable def Comp (c : List Nat) : Prop := c = [] ∨ c = [46] ∨ c = [46, 46] ∨ ∃ d, d < 16 ∧ c = [65 + d]
theorem Comp.free {c : List Nat} (h : Comp c) : 47 ∉ c := by
  rcases h with rfl | rfl | rfl | ⟨d, hd, rfl⟩ <;> simp
  lia
theorem unit_nil : unit [] = zeroW := by simp [unit]
theorem unit_dot : unit [46] = zeroW := by simp [unit]
theorem unit_dots : unit [46, 46] = ⟨0, 1, 0, 0⟩ := by simp [unit]
theorem unit_let {d : Nat} (hd : d < 16) : unit [65 + d] = ⟨0, 0, 1, d⟩ := by
  unfold unit
  rw [if_neg (by simp; lia), if_neg (by simp)]
  simp
theorem unit_nrm {c : List Nat} (h : Comp c) : (unit c).Nrm ∧ (unit c).root = 0 := by
  rcases h with rfl | rfl | rfl | ⟨d, hd, rfl⟩
  · rw [unit_nil]; exact ⟨zero_nrm, rfl⟩
  · rw [unit_dot]; exact ⟨zero_nrm, rfl⟩
  · rw [unit_dots]; exact ⟨⟨by decide, fun h => absurd rfl h, by decide⟩, rfl⟩
  · rw [unit_let hd]; exact ⟨⟨Nat.zero_le _, fun h => absurd rfl h, by simpa using hd⟩, rfl⟩
noncomputable def goes (w : Way) (cs : List (List Nat)) : Way := cs.foldl (fun w c => w.times (unit c)) w
theorem goes_app (w : Way) (a b : List (List Nat)) : goes w (a ++ b) = goes (goes w a) b := List.foldl_append
theorem goes_nrm {w : Way} (hw : w.Nrm) : ∀ {cs : List (List Nat)}, (∀ c ∈ cs, Comp c) → (goes w cs).Nrm := by
  intro cs
  induction cs generalizing w with
  | nil => exact fun zz1 => hw
  | cons c cs ih => exact fun h => ih (times_nrm hw (unit_nrm (h c (.head _))).1) fun d hd => h d (.tail _ hd)
theorem goes_times {w : Way} (hw : w.val < 16 ^ w.cnt) : ∀ {cs : List (List Nat)} {v : Way}, v.val < 16 ^ v.cnt → (∀ c ∈ cs, Comp c) → goes (w.times v) cs = w.times (goes v cs) := by
  intro cs
  induction cs with
  | nil => exact fun zz1 zz2 => rfl
  | cons c cs ih =>
    intro v hv h
    have hu := (unit_nrm (h c (.head _))).1
    show goes ((w.times v).times (unit c)) cs = w.times (goes (v.times (unit c)) cs)
    rw [times_assoc hv, ih (times_val hv hu.2.2) fun d hd => h d (.tail _ hd)]
theorem goes_root {w : Way} : ∀ {cs : List (List Nat)}, (∀ c ∈ cs, Comp c) → (goes w cs).root = w.root := by
  intro cs
  induction cs generalizing w with
  | nil => exact fun zz1 => rfl
  | cons c cs ih =>
    intro h
    have hu := (unit_nrm (h c (.head _))).2
    show (goes (w.times (unit c)) cs).root = _
    rw [ih fun d hd => h d (.tail _ hd)]
    unfold Way.times
    rw [if_neg (by rw [hu]; decide)]
    split
    · rfl
    · split
      · rfl
      · rename_i h2; exact (Classical.not_not.mp h2).symm
end Mine
end
section
open PySem PySem.W PySem.Calls PyProof.Rows PyProof.V
namespace Mine

theorem head_app {a b : List Nat} (h : a ≠ []) : (a ++ b).head? = a.head? := by
  cases a with
  | nil => exact absurd rfl h
  | cons x r => rfl
theorem last_app {a b : List Nat} (h : b ≠ []) : (a ++ b).getLast? = b.getLast? := by
  obtain ⟨z, hz⟩ : ∃ z, b.getLast? = some z := ⟨_, List.getLast?_eq_some_getLast h⟩
  rw [List.getLast?_append, hz]; rfl
theorem splitL_app (x y : List Nat) : splitL 47 (x ++ 47 :: y) = splitL 47 x ++ splitL 47 y := by
  induction x with
  | nil => simp [splitL]
  | cons a r ih =>
    by_cases h : a = 47
    · subst h
      simp only [List.cons_append, splitL, if_true, ih]
    · have hne := splitL_ne 47 r
      simp only [List.cons_append, splitL, if_neg h, ih]
      cases hs : splitL 47 r with
      | nil => exact absurd hs hne
      | cons b t => rfl
structure Sp (l : List Nat) (w : Way) : Prop where
  ne : l ≠ []
  ok : ∀ c ∈ splitL 47 (splitrootL l).2, Comp c
  val : goes ⟨(splitrootL l).1.length, 0, 0, 0⟩ (splitL 47 (splitrootL l).2) = w
theorem sr_le (l : List Nat) : (splitrootL l).1.length ≤ 2 := by unfold splitrootL; split <;> simp
theorem sr_rep (l : List Nat) : (splitrootL l).1 = List.replicate (splitrootL l).1.length 47 := by unfold splitrootL; split <;> rfl
theorem start_nrm {k : Nat} (h : k ≤ 2) : (⟨k, 0, 0, 0⟩ : Way).Nrm := ⟨h, fun zz1 => rfl, by simp⟩
theorem Sp.nrm {l : List Nat} {w : Way} (h : Sp l w) : w.Nrm := h.val ▸ goes_nrm (start_nrm (sr_le l)) h.ok
theorem Sp.root {l : List Nat} {w : Way} (h : Sp l w) : w.root = (splitrootL l).1.length := by rw [← h.val, goes_root h.ok]
theorem Sp.uniq {l : List Nat} {v w : Way} (h : Sp l v) (g : Sp l w) : v = w := h.val.symm.trans g.val

theorem sr_head (l : List Nat) : (l.head? = some 47) ↔ (splitrootL l).1.length ≠ 0 := by
  unfold splitrootL
  split
  · simp
  · simp
  · simp
  · rename_i h1 h2 h3
    simp only [List.length_nil, ne_eq, not_true_eq_false, iff_false]
    intro h
    cases l with
    | nil => cases h
    | cons a r =>
      have : a = 47 := by simpa using h
      subst this
      exact h3 r rfl
theorem sr_rel {l : List Nat} (h : l.head? ≠ some 47) : splitrootL l = ([], l) := by
  have h1 := mt (sr_head l).mpr h
  have h2 := splitroot_app l
  have h3 : (splitrootL l).1 = [] := List.length_eq_zero_iff.mp (Classical.not_not.mp h1)
  rw [h3, List.nil_append] at h2
  exact Prod.ext h3 h2
theorem sr_more {l t : List Nat} (ht : t.head? ≠ some 47 ∨ (splitrootL l).2 ≠ []) (hl : l.head? = some 47) : splitrootL (l ++ t) = ((splitrootL l).1, (splitrootL l).2 ++ t) := by
  match l, hl with
  | [_], hl =>
    cases hl
    have ht' : t.head? ≠ some 47 := by
      rcases ht with h | h
      · exact h
      · exact absurd rfl h
    match t, ht' with
    | [], _ => rfl
    | a :: r, h =>
      have : a ≠ 47 := by simpa using h
      show splitrootL (47 :: a :: r) = _
      simp [splitrootL, this]
  | [_, b], hl =>
    cases hl
    by_cases hb : b = 47
    · subst hb
      have ht' : t.head? ≠ some 47 := by
        rcases ht with h | h
        · exact h
        · exact absurd rfl h
      match t, ht' with
      | [], _ => rfl
      | a :: r, h =>
        have : a ≠ 47 := by simpa using h
        show splitrootL (47 :: 47 :: a :: r) = _
        simp [splitrootL, this]
    · simp [splitrootL, hb]
  | _ :: b :: c :: r, hl =>
    cases hl
    by_cases hb : b = 47
    · subst hb
      by_cases hc : c = 47
      · subst hc; rfl
      · simp [splitrootL, hc]
    · simp [splitrootL, hb]

theorem goes_dotnil (w : Way) : goes w [[]] = w := by
  show w.times (unit []) = w
  rw [unit_nil]; exact times_zero w
theorem goes_start {k : Nat} {cs : List (List Nat)} (h : ∀ c ∈ cs, Comp c) {w : Way} (hw : w.Nrm) : goes w cs = w.times (goes zeroW cs) := by
  have := goes_times hw.2.2 (cs := cs) (v := zeroW) (by simp [zeroW]) h
  rw [times_zero] at this
  exact this

theorem Sp.join {a b : List Nat} {v w : Way} (ha : Sp a v) (hb : Sp b w) : Sp (joinStep a b) (v.times w) := by
  unfold joinStep
  by_cases h1 : b.head? = some 47
  · rw [if_pos (.inl h1)]
    have hr : w.root ≠ 0 := by rw [hb.root]; exact (sr_head b).mp h1
    have e : v.times w = w := by unfold Way.times; rw [if_pos hr]
    rw [e]; exact hb
  · rw [if_neg (fun h => h.elim h1 ha.ne)]
    have hbr := sr_rel h1
    have hbok := hb.ok
    have hbv := hb.val
    rw [hbr] at hbok hbv
    have hbv' : goes zeroW (splitL 47 b) = w := hbv
    have fin : ∀ t, splitrootL (a ++ t) = ((splitrootL a).1, (splitrootL a).2 ++ t) → (∀ c ∈ splitL 47 ((splitrootL a).2 ++ t), Comp c) →
        goes v (splitL 47 b) = goes ⟨(splitrootL a).1.length, 0, 0, 0⟩ (splitL 47 ((splitrootL a).2 ++ t)) → Sp (a ++ t) (v.times w) := fun t e1 e2 e3 => by
      refine ⟨?_, ?_, ?_⟩
      · intro e
        exact ha.ne (List.append_eq_nil_iff.mp e).1
      · rw [e1]; exact e2
      · rw [e1]
        rw [← e3, goes_start (k := 0) hbok ha.nrm, hbv']
    by_cases h2 : a.getLast? = some 47
    · rw [if_pos h2]
      have hE : a.head? = some 47 ∨ a.head? ≠ some 47 := Classical.em _
      have e1 : splitrootL (a ++ b) = ((splitrootL a).1, (splitrootL a).2 ++ b) := by
        rcases hE with h | h
        · exact sr_more (.inl h1) h
        · rw [sr_rel h, sr_rel]
          intro e
          refine h ?_
          rw [head_app ha.ne] at e
          exact e
      refine fin b e1 ?_ ?_
      · by_cases hq : (splitrootL a).2 = []
        · rw [hq]; exact hbok
        · have hl : (splitrootL a).2.getLast? = some 47 := by
            have h := splitroot_app a
            rw [← h, last_app hq] at h2
            exact h2
          obtain ⟨q, hq2⟩ := List.getLast?_eq_some_iff.mp hl
          have hok := ha.ok
          rw [hq2, show q ++ [47] = q ++ 47 :: [] from rfl, splitL_app] at hok
          rw [hq2, List.append_assoc, List.singleton_append, splitL_app]
          intro c hc
          rcases List.mem_append.mp hc with hc | hc
          · exact hok c (List.mem_append_left _ hc)
          · exact hbok c hc
      · by_cases hq : (splitrootL a).2 = []
        · have hv := ha.val
          rw [hq] at hv
          rw [hq, List.nil_append]
          have hv2 : goes ⟨(splitrootL a).1.length, 0, 0, 0⟩ [[]] = v := hv
          rw [goes_dotnil] at hv2
          rw [hv2]
        · have hl : (splitrootL a).2.getLast? = some 47 := by
            have h := splitroot_app a
            rw [← h, last_app hq] at h2
            exact h2
          obtain ⟨q, hq2⟩ := List.getLast?_eq_some_iff.mp hl
          have hv := ha.val
          rw [hq2, show q ++ [47] = q ++ 47 :: [] from rfl, splitL_app, goes_app] at hv
          have hv2 : goes (goes ⟨(splitrootL a).1.length, 0, 0, 0⟩ (splitL 47 q)) [[]] = v := hv
          rw [goes_dotnil] at hv2
          rw [hq2, List.append_assoc, List.singleton_append, splitL_app, goes_app, hv2]
    · rw [if_neg h2]
      have e1 : splitrootL (a ++ 47 :: b) = ((splitrootL a).1, (splitrootL a).2 ++ 47 :: b) := by
        by_cases h : a.head? = some 47
        · refine sr_more (.inr fun e => ?_) h
          have h3 := splitroot_app a
          have h4 := sr_rep a
          rw [e, List.append_nil] at h3
          rw [h3] at h4
          refine h2 ?_
          have : a.length ≠ 0 := fun e => ha.ne (List.length_eq_zero_iff.mp e)
          rw [h4, List.getLast?_replicate, if_neg]
          exact this
        · rw [sr_rel h, sr_rel]
          rw [head_app ha.ne]
          exact h
      refine fin (47 :: b) e1 ?_ ?_
      · rw [splitL_app]
        intro c hc
        rcases List.mem_append.mp hc with hc | hc
        · exact ha.ok c hc
        · exact hbok c hc
      · rw [splitL_app, goes_app, ha.val]
end Mine
end
section
open PySem PySem.W PySem.Calls PyProof.Rows PyProof.V
namespace Mine

theorem names_let (w : Way) (d : Nat) (hd : d < 16) : (w.times (⟨0, 0, 1, d⟩ : Way)).names = w.names ++ [[65 + d]] := by
  unfold Way.times Way.names
  simp only [ne_eq, not_true_eq_false, if_false, Nat.zero_le, if_true, Nat.sub_zero, Nat.pow_zero, Nat.div_one, Nat.pow_one, lets]
  rw [show (w.val * 16 + d) / 16 = w.val from by lia, show (w.val * 16 + d) % 16 = d from by lia, List.map_append, List.append_assoc]
  rfl
theorem norm_step {r : List Nat} {w : Way} {c : List Nat} (hr : r = [] ↔ w.root = 0) (hw : w.Nrm) (hc : Comp c) : normStep r w.names c = (w.times (unit c)).names := by
  rcases hc with rfl | rfl | rfl | ⟨d, hd, rfl⟩
  · rw [unit_nil, times_zero]; simp [normStep]
  · rw [unit_dot, times_zero]; simp [normStep]
  · rw [unit_dots]
    unfold normStep
    rw [if_neg (by simp)]
    obtain ⟨root, up, cnt, val⟩ := w
    obtain ⟨h1, h2, h3⟩ := hw
    simp only at h1 h2 h3 hr
    cases cnt with
    | zero =>
      have hv : val = 0 := by simpa using h3
      subst hv
      by_cases h0 : root = 0
      · subst h0
        have hr' : r = [] := hr.mpr rfl
        have e1 : (⟨0, up, 0, 0⟩ : Way).names = List.replicate up [46, 46] := by simp [Way.names, lets]
        have e2 : ((⟨0, up, 0, 0⟩ : Way).times ⟨0, 1, 0, 0⟩).names = List.replicate (up + 1) [46, 46] := by simp [Way.times, Way.names, lets]
        rw [e1, e2]
        by_cases hu : up = 0
        · subst hu
          rw [if_pos (.inr (.inl ⟨hr', rfl⟩))]; rfl
        · rw [if_pos (.inr (.inr (by rw [List.getLast?_replicate, if_neg hu]))), ← List.replicate_succ']
      · have hu := h2 h0
        subst hu
        have e1 : (⟨root, 0, 0, 0⟩ : Way).names = [] := by simp [Way.names, lets]
        have e2 : ((⟨root, 0, 0, 0⟩ : Way).times ⟨0, 1, 0, 0⟩).names = [] := by simp [Way.times, Way.names, lets, h0]
        rw [e1, e2, if_neg]
        · rfl
        · simp [hr, h0]
    | succ k =>
      have e1 : (⟨root, up, k + 1, val⟩ : Way).names = (List.replicate up [46, 46] ++ (lets k (val / 16)).map ([·])) ++ [[65 + val % 16]] := by simp [Way.names, lets]
      have e2 : ((⟨root, up, k + 1, val⟩ : Way).times ⟨0, 1, 0, 0⟩).names = List.replicate up [46, 46] ++ (lets k (val / 16)).map ([·]) := by simp [Way.times, Way.names]
      rw [e1, e2, if_neg]
      · rw [List.dropLast_concat]
      · simp
  · rw [unit_let hd, names_let w d hd]
    unfold normStep
    rw [if_neg (by simp; lia), if_pos (.inl (by simp))]
theorem norm_fold {r : List Nat} : ∀ {cs : List (List Nat)} {w : Way}, (r = [] ↔ w.root = 0) → w.Nrm → (∀ c ∈ cs, Comp c) → cs.foldl (normStep r) w.names = (goes w cs).names := by
  intro cs
  induction cs with
  | nil => exact fun zz1 zz2 zz3 => rfl
  | cons c cs ih =>
    intro w hr hw h
    have hc := h c (.head _)
    show cs.foldl (normStep r) (normStep r w.names c) = (goes (w.times (unit c)) cs).names
    rw [norm_step hr hw hc]
    refine ih ?_ (times_nrm hw (unit_nrm hc).1) fun d hd => h d (.tail _ hd)
    have := goes_root (w := w) (cs := [c]) fun d hd => by rw [List.mem_singleton.mp hd]; exact hc
    have e : (w.times (unit c)).root = w.root := this
    rw [e]; exact hr
theorem Sp.norm {l : List Nat} {w : Way} (h : Sp l w) : normL l = w.text := by
  unfold normL
  rw [if_neg h.ne]
  have hn : (⟨(splitrootL l).1.length, 0, 0, 0⟩ : Way).names = [] := by simp [Way.names, lets]
  have h1 := norm_fold (r := (splitrootL l).1) (w := ⟨(splitrootL l).1.length, 0, 0, 0⟩) (List.length_eq_zero_iff.symm) (start_nrm (sr_le l)) h.ok
  rw [hn, h.val] at h1
  rw [h1]
  have h2 : (splitrootL l).1 = List.replicate w.root 47 := by rw [h.root]; exact sr_rep l
  rw [h2]
  rfl

theorem goes_dots (u : Nat) : goes zeroW (List.replicate u [46, 46]) = ⟨0, u, 0, 0⟩ := by
  induction u with
  | zero => rfl
  | succ u ih =>
    rw [List.replicate_succ', goes_app, ih]
    show (⟨0, u, 0, 0⟩ : Way).times (unit [46, 46]) = _
    rw [unit_dots]
    simp [Way.times]
theorem goes_lets (r u : Nat) : ∀ (k v : Nat), v < 16 ^ k → goes ⟨r, u, 0, 0⟩ ((lets k v).map ([·])) = ⟨r, u, k, v⟩
  | 0, v, h => by
    have : v = 0 := by simpa using h
    subst this; rfl
  | k + 1, v, h => by
    have hd : v % 16 < 16 := Nat.mod_lt _ (by decide)
    show goes ⟨r, u, 0, 0⟩ ((lets k (v / 16) ++ [65 + v % 16]).map ([·])) = _
    rw [List.map_append, goes_app, goes_lets r u k (v / 16) (by rw [Nat.pow_succ] at h; lia)]
    show (⟨r, u, k, v / 16⟩ : Way).times (unit [65 + v % 16]) = _
    rw [unit_let hd]
    simp only [Way.times, ne_eq, not_true_eq_false, if_false, Nat.zero_le, if_true, Nat.sub_zero, Nat.pow_zero, Nat.div_one, Nat.pow_one, Way.mk.injEq, true_and]
    lia
theorem goes_names {w : Way} (hw : w.Nrm) : goes ⟨w.root, 0, 0, 0⟩ w.names = w := by
  obtain ⟨r, u, k, v⟩ := w
  obtain ⟨h1, h2, h3⟩ := hw
  simp only at h1 h2 h3
  unfold Way.names
  rw [goes_app]
  by_cases hr : r = 0
  · subst hr
    rw [show (⟨0, 0, 0, 0⟩ : Way) = zeroW from rfl, goes_dots]
    exact goes_lets 0 u k v h3
  · have := h2 hr
    subst this
    exact goes_lets r 0 k v h3
theorem lets_16 : ∀ k v, ∀ c ∈ lets k v, ∃ d, d < 16 ∧ c = 65 + d
  | 0, _, c, h => by simp [lets] at h
  | k + 1, v, c, h => by
    rcases List.mem_append.mp (show c ∈ lets k (v / 16) ++ [65 + v % 16] from h) with q | q
    · exact lets_16 k _ c q
    · exact ⟨v % 16, Nat.mod_lt _ (by decide), by simpa using q⟩
theorem names_comp {w : Way} : ∀ c ∈ w.names, c = [46, 46] ∨ ∃ d, d < 16 ∧ c = [65 + d] := fun c hc => by
  rcases List.mem_append.mp hc with h | h
  · exact .inl (List.eq_of_mem_replicate h)
  · obtain ⟨x, hx, rfl⟩ := List.mem_map.mp h
    obtain ⟨d, hd, rfl⟩ := lets_16 _ _ x hx
    exact .inr ⟨d, hd, rfl⟩
theorem names_ok {w : Way} : ∀ c ∈ w.names, Comp c := fun c hc => (names_comp c hc).elim (fun h => .inr (.inr (.inl h))) fun h => .inr (.inr (.inr h))
theorem names_free {w : Way} : ∀ c ∈ w.names, 47 ∉ c := fun c hc => (names_ok c hc).free
theorem joinL_head {x : List Nat} {xs : List (List Nat)} (h : x ≠ []) : (joinL 47 (x :: xs)).head? = x.head? ∧ joinL 47 (x :: xs) ≠ [] := by
  cases xs with
  | nil => exact ⟨rfl, h⟩
  | cons y r => exact ⟨head_app h, by simp [joinL]⟩
theorem names_head {w : Way} : (joinL 47 w.names).head? ≠ some 47 := by
  cases hn : w.names with
  | nil => simp [joinL]
  | cons x xs =>
    have hx := names_comp (w := w) x (by rw [hn]; exact .head _)
    rcases hx with rfl | ⟨d, hd, rfl⟩
    · rw [(joinL_head (by simp)).1]; simp
    · rw [(joinL_head (by simp)).1]; simp; lia
theorem names_join {w : Way} : joinL 47 w.names = [] ↔ w.names = [] := by
  constructor
  · intro h
    cases hn : w.names with
    | nil => rfl
    | cons x xs =>
      rw [hn] at h
      have hx := names_comp (w := w) x (by rw [hn]; exact .head _)
      refine absurd h (joinL_head ?_).2
      rcases hx with rfl | ⟨d, hd, rfl⟩ <;> simp
  · intro h; rw [h]; rfl
theorem text_eq {w : Way} (h : w.root ≠ 0 ∨ w.names ≠ []) : w.text = List.replicate w.root 47 ++ joinL 47 w.names := by
  unfold Way.text
  dsimp only
  rw [if_neg]
  intro e
  obtain ⟨e1, e2⟩ := List.append_eq_nil_iff.mp e
  rcases h with h | h
  · exact h (by simpa using e1)
  · exact h (names_join.mp e2)
theorem text_dot {w : Way} (h1 : w.root = 0) (h2 : w.names = []) : w.text = [46] := by
  unfold Way.text
  dsimp only
  rw [h1, h2]; rfl
theorem sr_text {w : Way} (hw : w.Nrm) (h : w.root ≠ 0 ∨ w.names ≠ []) : splitrootL w.text = (List.replicate w.root 47, joinL 47 w.names) := by
  rw [text_eq h]
  have hh := names_head (w := w)
  generalize joinL 47 w.names = t at hh
  obtain ⟨h1, h2, h3⟩ := hw
  have hr : w.root = 0 ∨ w.root = 1 ∨ w.root = 2 := by lia
  rcases hr with e | e | e
  · rw [e]; exact sr_rel hh
  · rw [e]
    cases t with
    | nil => rfl
    | cons a r =>
      have : a ≠ 47 := by simpa using hh
      show splitrootL (47 :: a :: r) = _
      simp [splitrootL, this]
  · rw [e]
    cases t with
    | nil => rfl
    | cons a r =>
      have : a ≠ 47 := by simpa using hh
      show splitrootL (47 :: 47 :: a :: r) = _
      simp [splitrootL, this]
theorem Sp.text {w : Way} (hw : w.Nrm) : Sp w.text w := by
  by_cases h : w.root ≠ 0 ∨ w.names ≠ []
  · have e := sr_text hw h
    refine ⟨?_, ?_, ?_⟩
    · rw [text_eq h]
      intro e
      obtain ⟨e1, e2⟩ := List.append_eq_nil_iff.mp e
      rcases h with h | h
      · exact h (by simpa using e1)
      · exact h (names_join.mp e2)
    · rw [e]
      show ∀ c ∈ splitL 47 (joinL 47 w.names), Comp c
      by_cases hn : w.names = []
      · rw [hn]
        intro c hc
        exact .inl (by simpa [joinL, splitL] using hc)
      · rw [splitL_join hn names_free]
        exact names_ok
    · rw [e]
      show goes ⟨(List.replicate w.root 47).length, 0, 0, 0⟩ (splitL 47 (joinL 47 w.names)) = w
      rw [List.length_replicate]
      by_cases hn : w.names = []
      · have h2 := goes_names hw
        rw [hn] at h2 ⊢
        show goes _ [[]] = w
        rw [goes_dotnil]; exact h2
      · rw [splitL_join hn names_free]
        exact goes_names hw
  · have h1 : w.root = 0 := by
      by_cases q : w.root = 0
      · exact q
      · exact absurd (.inl q) h
    have h2 : w.names = [] := by
      by_cases q : w.names = []
      · exact q
      · exact absurd (.inr q) h
    rw [text_dot h1 h2]
    have h3 := goes_names hw
    rw [h1, h2] at h3
    have h4 : zeroW = w := h3
    refine ⟨by simp, ?_, ?_⟩
    · intro c hc
      exact .inr (.inl (by simpa [splitrootL, splitL] using hc))
    · rw [← h4]
      show zeroW.times (unit [46]) = zeroW
      rw [unit_dot, times_zero]
theorem text_inj {v w : Way} (hv : v.Nrm) (hw : w.Nrm) (h : v.text = w.text) : v = w := (Sp.text hv).uniq (h ▸ Sp.text hw)
theorem Sp.njoin {a b : List Nat} {v w : Way} (ha : Sp a v) (hb : Sp b w) : Mine.njoin a b = (v.times w).text ∧ Sp (Mine.njoin a b) (v.times w) := by
  have h := (ha.join hb)
  have e : Mine.njoin a b = (v.times w).text := h.norm
  exact ⟨e, e ▸ Sp.text h.nrm⟩
end Mine
end
section
open PySem PySem.W PySem.Calls PyProof.Rows PyProof.V
namespace Mine

/-! the order of the letters -/
noncomputable def pad : Nat → List Nat → Nat
  | _, [] => 0
  | n, x :: xs => (x - 65) * 16 ^ (n - 1) + pad (n - 1) xs
noncomputable def Let (xs : List Nat) : Prop := ∀ c ∈ xs, ∃ d, d < 16 ∧ c = 65 + d
theorem pad_lt : ∀ (n : Nat) (xs : List Nat), Let xs → xs.length ≤ n → pad n xs < 16 ^ n
  | n, [], _, _ => p16pos n
  | 0, x :: xs, _, h => by simp at h
  | n + 1, x :: xs, h, hl => by
    obtain ⟨d, hd, rfl⟩ := h x (.head _)
    have ih := pad_lt n xs (fun c hc => h c (.tail _ hc)) (by simpa using hl)
    show (65 + d - 65) * 16 ^ n + pad n xs < 16 ^ (n + 1)
    rw [Nat.add_sub_cancel_left, Nat.pow_succ]
    calc d * 16 ^ n + pad n xs < d * 16 ^ n + 16 ^ n := by lia
      _ = (d + 1) * 16 ^ n := by rw [Nat.add_mul, Nat.one_mul]
      _ ≤ 16 * 16 ^ n := Nat.mul_le_mul_right _ (by lia)
      _ = 16 ^ n * 16 := Nat.mul_comm _ _
theorem pad_app : ∀ (n : Nat) (xs : List Nat) (c : Nat), xs.length < n → pad n (xs ++ [c]) = pad n xs + (c - 65) * 16 ^ (n - 1 - xs.length)
  | n, [], c, h => by simp [pad]
  | n, x :: xs, c, h => by
    have ih := pad_app (n - 1) xs c (by simp at h; lia)
    show (x - 65) * 16 ^ (n - 1) + pad (n - 1) (xs ++ [c]) = (x - 65) * 16 ^ (n - 1) + pad (n - 1) xs + _
    rw [ih, Nat.add_assoc, List.length_cons, show n - 1 - 1 - xs.length = n - 1 - (xs.length + 1) from by lia]
theorem pad_lets : ∀ (n k v : Nat), k ≤ n → v < 16 ^ k → pad n (lets k v) = v * 16 ^ (n - k)
  | n, 0, v, _, h => by
    have : v = 0 := by simpa using h
    subst this; simp [lets, pad]
  | n, k + 1, v, hk, h => by
    have h1 := pad_lets n k (v / 16) (by lia) (by rw [Nat.pow_succ] at h; lia)
    have h2 := lets_len k (v / 16)
    show pad n (lets k (v / 16) ++ [65 + v % 16]) = _
    rw [pad_app n _ _ (by lia), h1, h2, Nat.add_sub_cancel_left, show n - 1 - k = n - (k + 1) from by lia, show n - k = n - (k + 1) + 1 from by lia, Nat.pow_succ]
    generalize 16 ^ (n - (k + 1)) = p
    have h3 : v = 16 * (v / 16) + v % 16 := (Nat.div_add_mod v 16).symm
    calc v / 16 * (p * 16) + v % 16 * p = (16 * (v / 16) + v % 16) * p := by rw [Nat.add_mul, Nat.mul_comm p 16, ← Nat.mul_assoc, Nat.mul_comm (v / 16) 16]
      _ = v * p := by rw [← h3]
theorem lets_let (k v : Nat) : Let (lets k v) := lets_16 k v
noncomputable def jl (xs : List Nat) : List Nat := joinL 47 (xs.map ([·]))
theorem jl_cons (x : Nat) (xs : List Nat) : jl (x :: xs) = x :: (if xs = [] then [] else 47 :: jl xs) := by
  cases xs with
  | nil => rfl
  | cons y r => rfl
theorem jl_nil {xs : List Nat} : jl xs = [] ↔ xs = [] := by
  cases xs with
  | nil => simp [jl, joinL]
  | cons x xs => rw [jl_cons]; simp
theorem jl_lt : ∀ (n : Nat) (xs ys : List Nat), Let xs → Let ys → xs.length ≤ n → ys.length ≤ n → (pad n xs < pad n ys ∨ (pad n xs = pad n ys ∧ xs.length < ys.length)) → jl xs < jl ys
  | n, [], [], _, _, _, _, h => by simp at h
  | n, [], y :: ys, _, _, _, _, h => by rw [jl_cons]; exact List.nil_lt_cons _ _
  | n, x :: xs, [], _, _, _, _, h => by simp [pad] at h
  | 0, x :: xs, y :: ys, _, _, h, _, _ => by simp at h
  | n + 1, x :: xs, y :: ys, hx, hy, lx, ly, h => by
    obtain ⟨d, hd, rfl⟩ := hx x (.head _)
    obtain ⟨e, he, rfl⟩ := hy y (.head _)
    have hx' : Let xs := fun c hc => hx c (.tail _ hc)
    have hy' : Let ys := fun c hc => hy c (.tail _ hc)
    have lx' : xs.length ≤ n := by simpa using lx
    have ly' : ys.length ≤ n := by simpa using ly
    have bx := pad_lt n xs hx' lx'
    have by_ := pad_lt n ys hy' ly'
    simp only [pad, Nat.add_sub_cancel_left, Nat.add_sub_cancel, List.length_cons] at h
    rw [jl_cons, jl_cons]
    rcases Nat.lt_trichotomy d e with q | q | q
    · exact List.cons_lt_cons_iff.mpr (.inl (by lia))
    · subst q
      refine List.cons_lt_cons_iff.mpr (.inr ⟨rfl, ?_⟩)
      have ih := jl_lt n xs ys hx' hy' lx' ly' (by lia)
      by_cases h1 : ys = []
      · subst h1
        exact absurd ih (List.not_lt_nil _)
      · rw [if_neg h1]
        by_cases h2 : xs = []
        · rw [if_pos h2]; exact List.nil_lt_cons _ _
        · rw [if_neg h2]
          exact List.cons_lt_cons_iff.mpr (.inr ⟨rfl, ih⟩)
    · exfalso
      have h1 : (e + 1) * 16 ^ n ≤ d * 16 ^ n := Nat.mul_le_mul_right _ q
      rw [Nat.add_mul, Nat.one_mul] at h1
      lia
theorem jl_head {xs : List Nat} (h : Let xs) (hne : xs ≠ []) : ∃ d t, d < 16 ∧ jl xs = (65 + d) :: t := by
  cases xs with
  | nil => exact absurd rfl hne
  | cons x xs =>
    obtain ⟨d, hd, rfl⟩ := h x (.head _)
    exact ⟨d, _, hd, jl_cons _ _⟩

/-! the steps up -/
noncomputable def ups : Nat → List Nat → List Nat
  | 0, t => t
  | u + 1, t => 46 :: 46 :: 47 :: ups u t
theorem joinL_dots (u : Nat) : ∀ (xs : List (List Nat)), xs ≠ [] → joinL 47 (List.replicate u [46, 46] ++ xs) = ups u (joinL 47 xs) := by
  induction u with
  | zero => intro xs _; rfl
  | succ u ih =>
    intro xs h
    rw [List.replicate_succ, List.cons_append]
    cases hr : List.replicate u [46, 46] ++ xs with
    | nil => exact absurd (List.append_eq_nil_iff.mp hr).2 h
    | cons y r =>
      show [46, 46] ++ 47 :: joinL 47 (y :: r) = _
      rw [← hr, ih xs h]; rfl
theorem ups_lt {s t : List Nat} (h : s < t) : ∀ u, ups u s < ups u t
  | 0 => h
  | u + 1 => by
    show 46 :: 46 :: 47 :: ups u s < 46 :: 46 :: 47 :: ups u t
    exact List.cons_lt_cons_iff.mpr (.inr ⟨rfl, List.cons_lt_cons_iff.mpr (.inr ⟨rfl, List.cons_lt_cons_iff.mpr (.inr ⟨rfl, ups_lt h u⟩)⟩)⟩)
theorem ups_add (u v : Nat) (t : List Nat) : ups (u + v) t = ups u (ups v t) := by
  induction u with
  | zero => rw [Nat.zero_add]; rfl
  | succ u ih => rw [Nat.add_right_comm]; show 46 :: 46 :: 47 :: ups (u + v) t = _; rw [ih]; rfl
theorem ups_head {u : Nat} (t : List Nat) (h : u ≠ 0) : ∃ r, ups u t = 46 :: r := by
  cases u with
  | zero => exact absurd rfl h
  | succ u => exact ⟨_, rfl⟩
noncomputable def dots : Nat → List Nat
  | 0 => [46]
  | u + 1 => ups u [46, 46]
theorem joinL_alldots (u : Nat) : joinL 47 (List.replicate (u + 1) [46, 46]) = ups u [46, 46] := by
  rw [List.replicate_succ', joinL_dots u _ (by simp)]; rfl
theorem dots_head (u : Nat) : ∃ r, dots u = 46 :: r := by
  cases u with
  | zero => exact ⟨_, rfl⟩
  | succ u => cases u <;> exact ⟨_, rfl⟩

theorem text0 {u : Nat} : (⟨0, u, 0, 0⟩ : Way).text = dots u := by
  cases u with
  | zero => rfl
  | succ u =>
    have e : (⟨0, u + 1, 0, 0⟩ : Way).names = List.replicate (u + 1) [46, 46] := by simp [Way.names, lets]
    rw [text_eq (.inr (by rw [e]; simp)), e]
    show [] ++ _ = _
    rw [List.nil_append, joinL_alldots]; rfl
theorem textL {r u k v : Nat} (hk : k ≠ 0) : (⟨r, u, k, v⟩ : Way).text = List.replicate r 47 ++ ups u (jl (lets k v)) := by
  have h0 : (lets k v).map ([·]) ≠ ([] : List (List Nat)) := by
    have := lets_len k v
    intro e
    have : (lets k v).length = 0 := by simpa using congrArg List.length e
    lia
  have e : (⟨r, u, k, v⟩ : Way).names = List.replicate u [46, 46] ++ (lets k v).map ([·]) := rfl
  rw [text_eq (.inr (by rw [e]; exact fun q => h0 (List.append_eq_nil_iff.mp q).2)), e, joinL_dots u _ h0]
  rfl
theorem textR {r : Nat} (hr : r ≠ 0) : (⟨r, 0, 0, 0⟩ : Way).text = List.replicate r 47 := by
  have e : (⟨r, 0, 0, 0⟩ : Way).names = [] := by simp [Way.names, lets]
  rw [text_eq (.inl hr), e]
  simp [joinL]
theorem c_lt {a b : Nat} {s t : List Nat} (h : a < b) : a :: s < b :: t := List.cons_lt_cons_iff.mpr (.inl h)
theorem c_eq {a : Nat} {s t : List Nat} (h : s < t) : a :: s < a :: t := List.cons_lt_cons_iff.mpr (.inr ⟨rfl, h⟩)
end Mine
end
section
open PySem PySem.W PySem.Calls PyProof.Rows PyProof.V
namespace Mine

noncomputable def Less (k v k' v' : Nat) : Prop := v * 16 ^ (24 - k) < v' * 16 ^ (24 - k') ∨ (v * 16 ^ (24 - k) = v' * 16 ^ (24 - k') ∧ k < k')
theorem jl_less {k v k' v' : Nat} (hk : k ≤ 24) (hk' : k' ≤ 24) (hv : v < 16 ^ k) (hv' : v' < 16 ^ k') (h : Less k v k' v') : jl (lets k v) < jl (lets k' v') := by
  refine jl_lt 24 _ _ (lets_let _ _) (lets_let _ _) (by rw [lets_len]; exact hk) (by rw [lets_len]; exact hk') ?_
  rw [pad_lets 24 k v hk hv, pad_lets 24 k' v' hk' hv', lets_len, lets_len]
  exact h
inductive Kind : Way → Prop
  | dots (u : Nat) : Kind ⟨0, u, 0, 0⟩
  | mix (u k v : Nat) (h : v < 16 ^ (k + 1)) : Kind ⟨0, u + 1, k + 1, v⟩
  | root : Kind ⟨1, 0, 0, 0⟩
  | two (k v : Nat) (h : v < 16 ^ k) : Kind ⟨2, 0, k, v⟩
  | one (k v : Nat) (h : v < 16 ^ (k + 1)) : Kind ⟨1, 0, k + 1, v⟩
  | rel (k v : Nat) (h : v < 16 ^ (k + 1)) : Kind ⟨0, 0, k + 1, v⟩
theorem Way.Nrm.kind {w : Way} (h : w.Nrm) : Kind w := by
  obtain ⟨r, u, k, v⟩ := w
  obtain ⟨h1, h2, h3⟩ := h
  simp only at h1 h2 h3
  have hr : r = 0 ∨ r = 1 ∨ r = 2 := by lia
  rcases hr with rfl | rfl | rfl
  · cases k with
    | zero =>
      have : v = 0 := by simpa using h3
      subst this; exact .dots u
    | succ k =>
      cases u with
      | zero => exact .rel k v h3
      | succ u => exact .mix u k v h3
  · have := h2 (by decide)
    subst this
    cases k with
    | zero =>
      have : v = 0 := by simpa using h3
      subst this; exact .root
    | succ k => exact .one k v h3
  · have := h2 (by decide)
    subst this
    exact .two k v h3
theorem klt {a b c d a' b' c' d' : Int} : [a, b, c, d] < [a', b', c', d'] ↔ a < a' ∨ (a = a' ∧ (b < b' ∨ (b = b' ∧ (c < c' ∨ (c = c' ∧ d < d'))))) := by
  simp only [List.cons_lt_cons_iff, List.lt_irrefl, and_false, or_false]
theorem klt_le {a b c d a' b' c' d' : Int} (h : [a, b, c, d] < [a', b', c', d']) : a ≤ a' := by
  rcases klt.mp h with q | q
  · exact Int.le_of_lt q
  · exact Int.le_of_eq q.1
theorem key0 (u : Nat) : (⟨0, u, 0, 0⟩ : Way).key = [0, (u : Int), 0, 0] := by simp [Way.key, Way.rank]
theorem key1 (u k v : Nat) : (⟨0, u + 1, k + 1, v⟩ : Way).key = [1, -((u + 1 : Nat) : Int), ((v * 16 ^ (24 - (k + 1)) : Nat) : Int), ((k + 1 : Nat) : Int)] := by simp [Way.key, Way.rank]
theorem key2 : (⟨1, 0, 0, 0⟩ : Way).key = [2, 0, 0, 0] := by simp [Way.key, Way.rank]
theorem key3 (k v : Nat) : (⟨2, 0, k, v⟩ : Way).key = [3, 0, ((v * 16 ^ (24 - k) : Nat) : Int), (k : Int)] := by simp [Way.key, Way.rank]
theorem key4 (k v : Nat) : (⟨1, 0, k + 1, v⟩ : Way).key = [4, 0, ((v * 16 ^ (24 - (k + 1)) : Nat) : Int), ((k + 1 : Nat) : Int)] := by simp [Way.key, Way.rank]
theorem key5 (k v : Nat) : (⟨0, 0, k + 1, v⟩ : Way).key = [5, 0, ((v * 16 ^ (24 - (k + 1)) : Nat) : Int), ((k + 1 : Nat) : Int)] := by simp [Way.key, Way.rank]
theorem lets_hd (k v : Nat) : ∃ d t, d < 16 ∧ jl (lets (k + 1) v) = (65 + d) :: t := jl_head (lets_let _ _) (fun e => by have := lets_len (k + 1) v; rw [e] at this; simp at this)
theorem text1 (u k v : Nat) : (⟨0, u + 1, k + 1, v⟩ : Way).text = ups (u + 1) (jl (lets (k + 1) v)) := textL (by lia)
theorem text2 : (⟨1, 0, 0, 0⟩ : Way).text = [47] := textR (by decide)
theorem text3 (k v : Nat) (h : v < 16 ^ k) : (⟨2, 0, k, v⟩ : Way).text = 47 :: 47 :: jl (lets k v) := by
  cases k with
  | zero =>
    have : v = 0 := by simpa using h
    subst this; exact textR (by decide)
  | succ k => exact textL (by lia)
theorem text4 (k v : Nat) : (⟨1, 0, k + 1, v⟩ : Way).text = 47 :: jl (lets (k + 1) v) := textL (by lia)
theorem text5 (k v : Nat) : (⟨0, 0, k + 1, v⟩ : Way).text = jl (lets (k + 1) v) := textL (by lia)
theorem ltN {a b : Nat} : ((a : Int) < (b : Int)) ↔ a < b := by lia
theorem eqN {a b : Nat} : ((a : Int) = (b : Int)) ↔ a = b := by lia
theorem dots_dots {u u' : Nat} (h : u < u') : dots u < dots u' := by
  cases u' with
  | zero => lia
  | succ w =>
    cases u with
    | zero =>
      obtain ⟨r, hr⟩ : ∃ r, dots (w + 1) = 46 :: 46 :: r := by cases w <;> exact ⟨_, rfl⟩
      rw [hr]
      exact c_eq (List.nil_lt_cons _ _)
    | succ u =>
      show ups u [46, 46] < ups w [46, 46]
      obtain ⟨d, rfl⟩ : ∃ d, w = u + (d + 1) := ⟨w - u - 1, by lia⟩
      rw [ups_add]
      refine ups_lt ?_ u
      exact c_eq (c_eq (List.nil_lt_cons _ _))
theorem dots_mix {u u' d : Nat} {t : List Nat} : dots u < ups (u' + 1) ((65 + d) :: t) := by
  cases u with
  | zero => exact c_eq (List.nil_lt_cons _ _)
  | succ u =>
    show ups u [46, 46] < _
    rcases Nat.lt_or_ge u (u' + 1) with h | h
    · obtain ⟨e, he⟩ : ∃ e, u' + 1 = u + (e + 1) := ⟨u' - u, by lia⟩
      rw [he, ups_add]
      exact ups_lt (c_eq (c_eq (List.nil_lt_cons _ _))) u
    · obtain ⟨e, rfl⟩ : ∃ e, u = (u' + 1) + e := ⟨u - (u' + 1), by lia⟩
      rw [ups_add]
      refine ups_lt ?_ (u' + 1)
      cases e with
      | zero => exact c_lt (by lia)
      | succ e => exact c_lt (by lia)
theorem mix_mix {u u' d : Nat} {s t : List Nat} (h : u' < u) : ups u s < ups u' ((65 + d) :: t) := by
  obtain ⟨e, rfl⟩ : ∃ e, u = u' + (e + 1) := ⟨u - u' - 1, by lia⟩
  rw [ups_add]
  exact ups_lt (c_lt (by lia)) u'

theorem key_text {v w : Way} (hv : v.Nrm) (hw : w.Nrm) (cv : v.cnt ≤ 24) (cw : w.cnt ≤ 24) (h : v.key < w.key) : v.text < w.text := by
  cases hv.kind with
  | dots u =>
    rw [text0]
    rw [key0] at h
    obtain ⟨r0, hr0⟩ := dots_head u
    cases hw.kind with
    | dots u' =>
      rw [key0, klt] at h
      rw [text0]
      exact dots_dots (by lia)
    | mix u' k' v' h' =>
      rw [text1]
      obtain ⟨d, t, hd, e⟩ := lets_hd k' v'
      rw [e]; exact dots_mix
    | root => rw [text2, hr0]; exact c_lt (by decide)
    | two k' v' h' => rw [text3 _ _ h', hr0]; exact c_lt (by decide)
    | one k' v' h' => rw [text4, hr0]; exact c_lt (by decide)
    | rel k' v' h' =>
      obtain ⟨d, t, hd, e⟩ := lets_hd k' v'
      rw [text5, hr0, e]; exact c_lt (by lia)
  | mix u k v hh =>
    rw [text1]
    rw [key1] at h
    cases hw.kind with
    | dots u' => rw [key0] at h; exact absurd (klt_le h) (by decide)
    | mix u' k' v' h' =>
      rw [key1, klt] at h
      rw [text1]
      obtain ⟨d, t, hd, e⟩ := lets_hd k' v'
      by_cases q : u' < u
      · rw [e]; exact mix_mix (by lia)
      · have hu : u = u' := by lia
        subst hu
        refine ups_lt (jl_less cv cw hh h' ?_) _
        simp only [ltN, eqN] at h
        unfold Less
        (try dsimp only)
        lia
    | root => rw [text2]; exact c_lt (by decide)
    | two k' v' h' => rw [text3 _ _ h']; exact c_lt (by decide)
    | one k' v' h' => rw [text4]; exact c_lt (by decide)
    | rel k' v' h' =>
      obtain ⟨d, t, hd, e⟩ := lets_hd k' v'
      rw [text5, e]; exact c_lt (by lia)
  | root =>
    rw [text2]
    rw [key2] at h
    cases hw.kind with
    | dots u' => rw [key0] at h; exact absurd (klt_le h) (by decide)
    | mix u' k' v' h' => rw [key1] at h; exact absurd (klt_le h) (by decide)
    | root => rw [key2] at h; exact absurd h (List.lt_irrefl _)
    | two k' v' h' => rw [text3 _ _ h']; exact c_eq (List.nil_lt_cons _ _)
    | one k' v' h' =>
      obtain ⟨d, t, hd, e⟩ := lets_hd k' v'
      rw [text4, e]; exact c_eq (List.nil_lt_cons _ _)
    | rel k' v' h' =>
      obtain ⟨d, t, hd, e⟩ := lets_hd k' v'
      rw [text5, e]; exact c_lt (by lia)
  | two k v hh =>
    rw [text3 _ _ hh]
    rw [key3] at h
    cases hw.kind with
    | dots u' => rw [key0] at h; exact absurd (klt_le h) (by decide)
    | mix u' k' v' h' => rw [key1] at h; exact absurd (klt_le h) (by decide)
    | root => rw [key2] at h; exact absurd (klt_le h) (by decide)
    | two k' v' h' =>
      rw [key3, klt] at h
      rw [text3 _ _ h']
      refine c_eq (c_eq (jl_less cv cw hh h' ?_))
      simp only [ltN, eqN] at h
      unfold Less
      (try dsimp only)
      lia
    | one k' v' h' =>
      obtain ⟨d, t, hd, e⟩ := lets_hd k' v'
      rw [text4, e]; exact c_eq (c_lt (by lia))
    | rel k' v' h' =>
      obtain ⟨d, t, hd, e⟩ := lets_hd k' v'
      rw [text5, e]; exact c_lt (by lia)
  | one k v hh =>
    rw [text4]
    rw [key4] at h
    cases hw.kind with
    | dots u' => rw [key0] at h; exact absurd (klt_le h) (by decide)
    | mix u' k' v' h' => rw [key1] at h; exact absurd (klt_le h) (by decide)
    | root => rw [key2] at h; exact absurd (klt_le h) (by decide)
    | two k' v' h' => rw [key3] at h; exact absurd (klt_le h) (by decide)
    | one k' v' h' =>
      rw [key4, klt] at h
      rw [text4]
      refine c_eq (jl_less cv cw hh h' ?_)
      simp only [ltN, eqN] at h
      unfold Less
      (try dsimp only)
      lia
    | rel k' v' h' =>
      obtain ⟨d, t, hd, e⟩ := lets_hd k' v'
      rw [text5, e]; exact c_lt (by lia)
  | rel k v hh =>
    rw [text5]
    rw [key5] at h
    cases hw.kind with
    | dots u' => rw [key0] at h; exact absurd (klt_le h) (by decide)
    | mix u' k' v' h' => rw [key1] at h; exact absurd (klt_le h) (by decide)
    | root => rw [key2] at h; exact absurd (klt_le h) (by decide)
    | two k' v' h' => rw [key3] at h; exact absurd (klt_le h) (by decide)
    | one k' v' h' => rw [key4] at h; exact absurd (klt_le h) (by decide)
    | rel k' v' h' =>
      rw [key5, klt] at h
      rw [text5]
      refine jl_less cv cw hh h' ?_
      simp only [ltN, eqN] at h
      unfold Less
      (try dsimp only)
      lia
theorem pow_inj {a b k : Nat} (h : a * 16 ^ k = b * 16 ^ k) : a = b := Nat.eq_of_mul_eq_mul_right (p16pos k) h
noncomputable def rootOf (k : Int) : Nat := if k = 3 then 2 else if k = 2 then 1 else if k = 4 then 1 else 0
theorem rank_root (w : Way) (h : w.root ≤ 2) : rootOf w.rank = w.root := by
  obtain ⟨r, u, k, v⟩ := w
  have hr : r = 0 ∨ r = 1 ∨ r = 2 := by simp only at h; lia
  rcases hr with rfl | rfl | rfl
  · cases k with
    | zero => rfl
    | succ k => cases u <;> rfl
  · cases k <;> rfl
  · rfl
theorem up_inj {k u u' : Nat} (h : (if k ≠ 0 then -(u : Int) else u) = if k ≠ 0 then -(u' : Int) else u') : u = u' := by
  split at h <;> lia
theorem key_inj {v w : Way} (hv : v.Nrm) (hw : w.Nrm) (h : v.key = w.key) : v = w := by
  obtain ⟨h1, h⟩ := List.cons.inj h
  obtain ⟨h2, h⟩ := List.cons.inj h
  obtain ⟨h3, h⟩ := List.cons.inj h
  obtain ⟨h4, h⟩ := List.cons.inj h
  have e1 : v.root = w.root := by rw [← rank_root v hv.1, ← rank_root w hw.1, h1]
  have e4 : v.cnt = w.cnt := Int.ofNat.inj h4
  obtain ⟨r, u, k, x⟩ := v
  obtain ⟨r', u', k', x'⟩ := w
  simp only at e1 e4
  subst e1 e4
  have e3 := pow_inj (Int.ofNat.inj h3)
  have e2 := up_inj h2
  simp only at e2 e3
  rw [e2, e3]
theorem key_iff {v w : Way} (hv : v.Nrm) (hw : w.Nrm) (cv : v.cnt ≤ 24) (cw : w.cnt ≤ 24) : v.text < w.text ↔ v.key < w.key := by
  refine ⟨fun h => ?_, key_text hv hw cv cw⟩
  by_cases q : v.key < w.key
  · exact q
  · exfalso
    have q2 : w.key ≤ v.key := List.not_lt.mp q
    by_cases e : v.key = w.key
    · have := key_inj hv hw e
      subst this
      exact List.lt_irrefl _ h
    · have q3 : w.key < v.key := by
        by_cases q4 : w.key < v.key
        · exact q4
        · exact absurd (List.le_antisymm (List.not_lt.mp q4) q2) e
      exact List.lt_asymm h (key_text hw hv cw cv q3)
end Mine
end
section
open PySem PySem.W PySem.Calls PyProof.Rows PyProof.V
namespace Mine

noncomputable def Row.Is (r : Row) : Prop := r.1 = r.2.2.key ∧ r.2.1 = r.2.2.text ∧ r.2.2.Nrm ∧ r.2.2.cnt ≤ 24
theorem Row.Is.key {a b : Row} (ha : a.Is) (hb : b.Is) (h : a.1 = b.1) : a = b := by
  obtain ⟨a1, a2, a3, a4⟩ := ha
  obtain ⟨b1, b2, b3, b4⟩ := hb
  have hw : a.2.2 = b.2.2 := key_inj a3 b3 (by rw [← a1, ← b1, h])
  exact Prod.ext h (Prod.ext (by rw [a2, b2, hw]) hw)
theorem Row.Is.text {a b : Row} (ha : a.Is) (hb : b.Is) (h : a.2.1 = b.2.1) : a = b := by
  obtain ⟨a1, a2, a3, a4⟩ := ha
  obtain ⟨b1, b2, b3, b4⟩ := hb
  have hw : a.2.2 = b.2.2 := text_inj a3 b3 (by rw [← a2, ← b2, h])
  exact Prod.ext (by rw [a1, b1, hw]) (Prod.ext h hw)
theorem Row.Is.lt {a b : Row} (ha : a.Is) (hb : b.Is) : a.2.1 < b.2.1 ↔ a.1 < b.1 := by
  obtain ⟨a1, a2, a3, a4⟩ := ha
  obtain ⟨b1, b2, b3, b4⟩ := hb
  rw [a1, a2, b1, b2]
  exact key_iff a3 b3 a4 b4

theorem rsort_spec {rows : List Row} (hn : rows.length = 2 ∨ rows.length = 3 ∨ rows.length = 6) : (rsort rows).Pairwise (fun a b => a.1 ≤ b.1) ∧ ∀ r, r ∈ rsort rows ↔ r ∈ rows := by
  have hspec := chk_ok (R := fun i j => (rows.getD i rdf).1 ≤ (rows.getD j rdf).1) (lt := rlt rows) (n := rows.length) (fun a => List.le_refl _) (fun a b c h1 h2 => List.le_trans h1 h2)
    (fun i j h => List.le_of_lt (of_decide_eq_true h)) (fun i j h => List.not_lt.mp (of_decide_eq_false h)) (kas_sort rows.length) 0 [] bits0 (fun zz1 h => by cases h) (chkN hn)
  refine ⟨?_, fun r => ⟨rsort_mem hn r, fun hr => ?_⟩⟩
  · unfold rsort
    exact List.pairwise_map.mpr hspec.2.2.2
  · obtain ⟨i, hi, rfl⟩ := List.mem_iff_getElem.mp hr
    unfold rsort
    refine List.mem_map.mpr ⟨i, hspec.2.1 i hi, ?_⟩
    rw [List.getD_eq_getElem?_getD, List.getElem?_eq_getElem hi]; rfl
theorem getD_at {l : List Row} {i : Nat} (h : i < l.length) : l.getD i rdf = l[i] := by
  rw [List.getD_eq_getElem?_getD, List.getElem?_eq_getElem h]; rfl
theorem once_mem {l : List Row} : ∀ (i : Nat) (h : i < l.length), l[i] ∈ onceL l
  | 0, h => List.mem_map.mpr ⟨0, List.mem_filter.mpr ⟨List.mem_range.mpr h, by simp⟩, getD_at h⟩
  | i + 1, h => by
    by_cases q : l[i + 1] = l[i]
    · rw [q]; exact once_mem i (by lia)
    · exact List.mem_map.mpr ⟨i + 1, List.mem_filter.mpr ⟨List.mem_range.mpr h, by
        rw [decide_eq_true_iff, getD_at h, Nat.add_sub_cancel, getD_at (show i < l.length by lia)]
        exact .inr q⟩, getD_at h⟩
theorem once_spec {l : List Row} (hs : l.Pairwise (fun a b => a.1 ≤ b.1)) (hI : ∀ r ∈ l, r.Is) : (onceL l).Pairwise (fun a b => a.1 < b.1) ∧ ∀ r, r ∈ onceL l ↔ r ∈ l := by
  have le : ∀ i j (hi : i < l.length) (hj : j < l.length), i ≤ j → l[i].1 ≤ l[j].1 := fun i j hi hj h => by
    rcases Nat.lt_or_eq_of_le h with q | q
    · exact List.pairwise_iff_getElem.mp hs i j hi hj q
    · subst q; exact List.le_refl _
  refine ⟨?_, fun r => ⟨onceL_mem, fun hr => ?_⟩⟩
  · unfold onceL
    rw [List.pairwise_map]
    have h1 : (List.range l.length).Pairwise (· < ·) := List.pairwise_lt_range
    refine (h1.filter _).imp_of_mem fun {i j} hi hj hij => ?_
    obtain ⟨hi1, _⟩ := List.mem_filter.mp hi
    obtain ⟨hj1, hj2⟩ := List.mem_filter.mp hj
    have hi1 := List.mem_range.mp hi1
    have hj1 := List.mem_range.mp hj1
    have hj2 := of_decide_eq_true hj2
    obtain ⟨k, rfl⟩ := Nat.exists_eq_succ_of_ne_zero (show j ≠ 0 by lia)
    have hk : k < l.length := by lia
    rcases hj2 with q | q
    · cases q
    · rw [getD_at hj1, Nat.succ_sub_one, getD_at hk] at q
      rw [getD_at hj1, getD_at hi1]
      have a1 := le i k hi1 hk (by lia)
      have a2 := le k (k + 1) hk hj1 (by lia)
      have a3 : l[k].1 < l[k + 1].1 := by
        by_cases q4 : l[k].1 < l[k + 1].1
        · exact q4
        · refine absurd ?_ q
          exact ((hI _ (List.getElem_mem hk)).key (hI _ (List.getElem_mem hj1)) (List.le_antisymm a2 (List.not_lt.mp q4))).symm
      exact List.lt_of_le_of_lt a1 a3
  · obtain ⟨i, hi, rfl⟩ := List.mem_iff_getElem.mp hr
    exact once_mem i hi
theorem txts_lt {l : List Row} (hs : l.Pairwise (fun a b => a.1 < b.1)) (hI : ∀ r ∈ l, r.Is) : (txts l).Pairwise (· < ·) := by
  unfold txts
  rw [List.pairwise_map]
  exact hs.imp_of_mem fun {a b} ha hb h => ((hI a ha).lt (hI b hb)).mpr h
theorem once_txts {L : List Row} (hn : L.length = 2 ∨ L.length = 3 ∨ L.length = 6) (hI : ∀ r ∈ L, r.Is) : (txts (onceL (rsort L))).Pairwise (· < ·) ∧ (∀ x, x ∈ txts (onceL (rsort L)) ↔ x ∈ txts L) ∧ ∀ r ∈ onceL (rsort L), r.Is := by
  obtain ⟨h1, h2⟩ := rsort_spec hn
  have hI2 : ∀ r ∈ rsort L, r.Is := fun r hr => hI r ((h2 r).mp hr)
  obtain ⟨h3, h4⟩ := once_spec h1 hI2
  have hI3 : ∀ r ∈ onceL (rsort L), r.Is := fun r hr => hI2 r ((h4 r).mp hr)
  refine ⟨txts_lt h3 hI3, fun x => ?_, hI3⟩
  unfold txts
  simp only [List.mem_map, h4, h2]

theorem dropWhile_no {x : List Nat} {xs : List (List Nat)} (h : ∀ y ∈ xs, x < y) : xs.dropWhile (· == x) = xs := by
  cases xs with
  | nil => rfl
  | cons y ys =>
    rw [List.dropWhile_cons_of_neg]
    intro e
    have e1 : y = x := by simpa using e
    have := h y (.head _)
    rw [e1] at this
    exact List.lt_irrefl _ this
noncomputable def noIn (xs ys : List (List Nat)) : List (List Nat) := xs.filter fun x => decide (x ∉ ys)
theorem noIn_cons {x : List Nat} {xs ys : List (List Nat)} (h : x ∉ ys) : noIn (x :: xs) ys = x :: noIn xs ys := by
  unfold noIn
  rw [List.filter_cons_of_pos (by simpa using h)]
theorem noIn_skip {x : List Nat} {xs ys : List (List Nat)} (h : x ∈ ys) : noIn (x :: xs) ys = noIn xs ys := by
  unfold noIn
  rw [List.filter_cons_of_neg (by simpa using h)]
theorem noIn_of {x : List Nat} {xs ys : List (List Nat)} (h : x ∉ xs) : noIn xs (x :: ys) = noIn xs ys := by
  unfold noIn
  refine List.filter_congr fun z hz => ?_
  have : z ≠ x := fun e => h (e ▸ hz)
  simp [this]
theorem noIn_nil (xs : List (List Nat)) : noIn xs [] = xs := by
  unfold noIn
  rw [List.filter_eq_self]
  simp
theorem sld_spec : ∀ (k : Nat) (xs ys : List (List Nat)), xs.length + ys.length ≤ k → xs.Pairwise (· < ·) → ys.Pairwise (· < ·) → sld k xs ys = (noIn xs ys, noIn ys xs)
  | k, [], ys, _, _, _ => by rw [sld_nilL, noIn_nil]; rfl
  | k, x :: xs, [], _, _, _ => by rw [sld_nilR, noIn_nil]; rfl
  | 0, x :: xs, y :: ys, h, _, _ => by simp at h
  | k + 1, x :: xs, y :: ys, h, hx, hy => by
    obtain ⟨x1, x2⟩ := List.pairwise_cons.mp hx
    obtain ⟨y1, y2⟩ := List.pairwise_cons.mp hy
    simp only [List.length_cons] at h
    unfold sld
    by_cases q1 : x < y
    · rw [if_pos q1, dropWhile_no x1, sld_spec k xs (y :: ys) (by simp; lia) x2 hy]
      have n1 : x ∉ y :: ys := fun e => by
        rcases List.mem_cons.mp e with e | e
        · rw [e] at q1; exact List.lt_irrefl _ q1
        · exact List.lt_irrefl _ (List.lt_trans q1 (y1 x e))
      rw [noIn_cons n1, noIn_of n1]
    · rw [if_neg q1]
      by_cases q2 : y < x
      · rw [if_pos q2, dropWhile_no y1, sld_spec k (x :: xs) ys (by simp; lia) hx y2]
        have n1 : y ∉ x :: xs := fun e => by
          rcases List.mem_cons.mp e with e | e
          · rw [e] at q2; exact List.lt_irrefl _ q2
          · exact List.lt_irrefl _ (List.lt_trans q2 (x1 y e))
        rw [noIn_cons n1, noIn_of n1]
      · rw [if_neg q2]
        have e : x = y := List.le_antisymm (List.not_lt.mp q2) (List.not_lt.mp q1)
        subst e
        rw [dropWhile_no x1, dropWhile_no y1, sld_spec k xs ys (by lia) x2 y2]
        have nx : x ∉ xs := fun e => List.lt_irrefl _ (x1 x e)
        have ny : x ∉ ys := fun e => List.lt_irrefl _ (y1 x e)
        rw [noIn_skip (.head _), noIn_skip (.head _), noIn_of nx, noIn_of ny]
theorem notIn_txts {A B : List Row} (hA : ∀ r ∈ A, r.Is) (hB : ∀ r ∈ B, r.Is) : txts (notIn A B) = noIn (txts A) (txts B) := by
  unfold noIn txts notIn
  rw [List.filter_map]
  congr 1
  refine List.filter_congr fun r hr => ?_
  have : r ∉ B ↔ r.2.1 ∉ B.map fun r => r.2.1 := by
    refine not_congr ⟨fun h => List.mem_map.mpr ⟨r, h, rfl⟩, fun h => ?_⟩
    obtain ⟨r', h', e⟩ := List.mem_map.mp h
    exact (hB r' h').text (hA r hr) e ▸ h'
  by_cases q : r ∈ B
  · have q2 : r.2.1 ∈ B.map fun r => r.2.1 := List.mem_map.mpr ⟨r, q, rfl⟩
    simp only [Function.comp, q, q2, not_true_eq_false]
  · have q2 := this.mp q
    simp only [Function.comp, q, q2, not_false_eq_true]
theorem sld_rows {A B : List Row} (hA : ∀ r ∈ A, r.Is) (hB : ∀ r ∈ B, r.Is) (sA : (txts A).Pairwise (· < ·)) (sB : (txts B).Pairwise (· < ·)) :
    sld ((txts A).length + (txts B).length) (txts A) (txts B) = (txts (notIn A B), txts (notIn B A)) := by
  rw [sld_spec _ _ _ (Nat.le_refl _) sA sB, notIn_txts hA hB, notIn_txts hB hA]
theorem cmp_rows {a b : Row} (ha : a.Is) (hb : b.Is) : ((if b.2.1 < a.2.1 then (1 : Int) else 0) - if a.2.1 < b.2.1 then 1 else 0) = if a.1 < b.1 then -1 else if a.1 = b.1 then 0 else 1 := by
  have h1 := ha.lt hb
  have h2 := hb.lt ha
  by_cases q : a.1 < b.1
  · rw [if_pos (h1.mpr q), if_pos q, if_neg (fun h => List.lt_asymm q (h2.mp h))]; rfl
  · rw [if_neg (fun h => q (h1.mp h)), if_neg q]
    by_cases e : a.1 = b.1
    · rw [if_pos e, if_neg (fun h => by have := h2.mp h; rw [e] at this; exact List.lt_irrefl _ this)]; rfl
    · have q3 : b.1 < a.1 := by
        by_cases q4 : b.1 < a.1
        · exact q4
        · exact absurd (List.le_antisymm (List.not_lt.mp q4) (List.not_lt.mp q)) e
      rw [if_neg e, if_pos (h2.mpr q3)]; rfl
end Mine
end
section
open PySem PySem.W PySem.Calls PyProof.Rows PyProof.V
namespace Mine

/-! what two ways share -/
theorem lets_inj {k v v' : Nat} (h : v < 16 ^ k) (h' : v' < 16 ^ k) (e : lets k v = lets k v') : v = v' := by
  have h1 := goes_lets 0 0 k v h
  rw [e, goes_lets 0 0 k v' h'] at h1
  cases h1; rfl
noncomputable def lt1 (k v : Nat) : List (List Nat) := (lets k v).map ([·])
theorem lt1_inj {k v k' v' : Nat} (h : v < 16 ^ k) (h' : v' < 16 ^ k') (e : lt1 k v = lt1 k' v') : k = k' ∧ v = v' := by
  have e1 : lets k v = lets k' v' := (List.map_inj_right (fun a b q => by simpa using q)).mp e
  have hk : k = k' := by
    have := congrArg List.length e1
    rw [lets_len, lets_len] at this
    exact this
  subst hk
  exact ⟨rfl, lets_inj h h' e1⟩
theorem lt1_len (k v : Nat) : (lt1 k v).length = k := by unfold lt1; rw [List.length_map, lets_len]
theorem lcp_drop : ∀ (xs : List (List Nat)) (x : List Nat) (ys : List (List Nat)), ys.length ≤ xs.length + 1 → ys ≠ xs ++ [x] → lcp (xs ++ [x]) ys = lcp xs ys
  | [], x, [], _, _ => rfl
  | [], x, [y], _, h => by
    have : x ≠ y := fun e => h (by rw [e]; rfl)
    simp [lcp, this]
  | [], x, y :: z :: r, h, _ => by simp at h
  | a :: xs, x, [], _, _ => rfl
  | a :: xs, x, b :: ys, h, hne => by
    simp only [List.cons_append, lcp]
    by_cases e : a = b
    · subst e
      rw [if_pos rfl, if_pos rfl, lcp_drop xs x ys (by simpa using h) (fun q => hne (by rw [q]; rfl))]
    · rw [if_neg e, if_neg e]
theorem share_lcp : ∀ (n c v c2 v2 : Nat), c + c2 ≤ n → v < 16 ^ c → v2 < 16 ^ c2 → lt1 (shareGo n c v c2 v2).1 (shareGo n c v c2 v2).2 = lcp (lt1 c v) (lt1 c2 v2)
  | 0, c, v, c2, v2, h, hv, hv2 => by
    have h1 : c = 0 := by lia
    have h2 : c2 = 0 := by lia
    subst h1; subst h2; rfl
  | n + 1, c, v, c2, v2, h, hv, hv2 => by
    unfold shareGo
    by_cases e : c = c2 ∧ v = v2
    · obtain ⟨rfl, rfl⟩ := e
      rw [if_pos ⟨rfl, rfl⟩, lcp_self]
    · rw [if_neg e]
      by_cases g : c ≥ c2
      · rw [if_pos g]
        cases c with
        | zero =>
          exfalso
          have : c2 = 0 := by lia
          subst this
          have a1 : v = 0 := by simpa using hv
          have a2 : v2 = 0 := by simpa using hv2
          exact e ⟨rfl, by rw [a1, a2]⟩
        | succ k =>
          rw [Nat.add_sub_cancel, share_lcp n k (v / 16) c2 v2 (by lia) (by rw [Nat.pow_succ] at hv; lia) hv2]
          have e1 : lt1 (k + 1) v = lt1 k (v / 16) ++ [[65 + v % 16]] := by simp [lt1, lets]
          rw [e1, lcp_drop _ _ _ (by rw [lt1_len, lt1_len]; lia)]
          rw [← e1]
          intro q
          obtain ⟨q1, q2⟩ := lt1_inj hv2 hv q
          exact e ⟨q1.symm, q2.symm⟩
      · rw [if_neg g]
        cases c2 with
        | zero => lia
        | succ k =>
          rw [Nat.add_sub_cancel, share_lcp n c v k (v2 / 16) (by lia) hv (by rw [Nat.pow_succ] at hv2; lia)]
          have e1 : lt1 (k + 1) v2 = lt1 k (v2 / 16) ++ [[65 + v2 % 16]] := by simp [lt1, lets]
          rw [lcp_comm, lcp_comm (lt1 c v), e1, lcp_drop _ _ _ (by rw [lt1_len, lt1_len]; lia)]
          rw [← e1]
          intro q
          obtain ⟨q1, q2⟩ := lt1_inj hv hv2 q
          exact e ⟨q1, q2⟩
theorem parts_text {w : Way} (hw : w.Nrm) : partsL w.text = w.names := by
  have fil : ∀ cs : List (List Nat), (∀ c ∈ cs, c ∈ w.names) → cs.filter (fun c => decide (c ≠ [] ∧ c ≠ [46])) = cs := fun cs h => by
    rw [List.filter_eq_self]
    intro c hc
    rcases names_comp c (h c hc) with rfl | ⟨d, hd, rfl⟩
    · simp
    · simp; lia
  by_cases h : w.root ≠ 0 ∨ w.names ≠ []
  · unfold partsL
    rw [text_eq h]
    have h2 : (splitL 47 (joinL 47 w.names)).filter (fun c => decide (c ≠ [] ∧ c ≠ [46])) = w.names := by
      by_cases hn : w.names = []
      · rw [hn]; rfl
      · rw [splitL_join hn names_free]
        exact fil _ fun c hc => hc
    have h3 : ∀ (r : Nat) (t : List Nat), (splitL 47 (List.replicate r 47 ++ t)).filter (fun c => decide (c ≠ [] ∧ c ≠ [46])) = (splitL 47 t).filter (fun c => decide (c ≠ [] ∧ c ≠ [46])) := by
      intro r t
      induction r with
      | zero => rfl
      | succ r ih =>
        rw [List.replicate_succ, List.cons_append]
        simp only [splitL, if_true]
        rw [List.filter_cons_of_neg (by simp), ih]
    rw [h3, h2]
  · have h1 : w.root = 0 := by
      by_cases q : w.root = 0
      · exact q
      · exact absurd (.inl q) h
    have h2 : w.names = [] := by
      by_cases q : w.names = []
      · exact q
      · exact absurd (.inr q) h
    rw [text_dot h1 h2, h2]; rfl
theorem text_root {w : Way} (hw : w.Nrm) : (w.text.head? = some 47) ↔ 0 < w.root := by
  rw [sr_head, ← (Sp.text hw).root]
  lia
theorem lcp_rep (u : Nat) (a b : List (List Nat)) : lcp (List.replicate u [46, 46] ++ a) (List.replicate u [46, 46] ++ b) = List.replicate u [46, 46] ++ lcp a b := by
  induction u with
  | zero => rfl
  | succ u ih =>
    rw [List.replicate_succ, List.cons_append, List.cons_append, List.cons_append]
    show (if [46, 46] = [46, 46] then _ else _) = _
    rw [if_pos rfl, ih]
theorem lcp_dots {u k v : Nat} {b : List (List Nat)} (hu : u ≠ 0) : lcp (lt1 k v) (List.replicate u [46, 46] ++ b) = [] := by
  cases hl : lt1 k v with
  | nil => cases u with
    | zero => rfl
    | succ u => rfl
  | cons x xs =>
    obtain ⟨m, rfl⟩ := Nat.exists_eq_succ_of_ne_zero hu
    have hx : x ∈ lt1 k v := by rw [hl]; exact .head _
    obtain ⟨c, hc, rfl⟩ := List.mem_map.mp hx
    show lcp ([c] :: xs) ([46, 46] :: _) = []
    simp [lcp]
theorem common_rows {v w : Way} (hv : v.Nrm) (hw : w.Nrm) : (if (v.text.head? = some 47 ↔ w.text.head? = some 47) then DS (commonL v.text w.text) else .none) = dO (sharedL v w) := by
  have hq : (v.text.head? = some 47 ↔ w.text.head? = some 47) ↔ (0 < v.root ↔ 0 < w.root) := by rw [text_root hv, text_root hw]
  unfold sharedL
  by_cases h : (0 < v.root ↔ 0 < w.root)
  · rw [if_pos (hq.mpr h), if_neg (by simp [h])]
    unfold commonL
    rw [parts_text hv, parts_text hw]
    obtain ⟨r, u, k, a⟩ := v
    obtain ⟨r', u', k', a'⟩ := w
    obtain ⟨v1, v2, v3⟩ := hv
    obtain ⟨w1, w2, w3⟩ := hw
    have hroot := text_root (w := ⟨r, u, k, a⟩) ⟨v1, v2, v3⟩
    simp only at v1 v2 v3 w1 w2 w3 h hroot ⊢
    have nm : ∀ u k a r, (⟨r, u, k, a⟩ : Way).names = List.replicate u [46, 46] ++ lt1 k a := fun zz1 zz2 zz3 zz4 => rfl
    rw [nm, nm]
    by_cases hu : u = u'
    · subst hu
      rw [if_neg (show ¬ u ≠ u from fun h => h rfl), lcp_rep, ← share_lcp (k + k') k a k' a' (Nat.le_refl _) v3 w3]
      show DS _ = DS _
      congr 1
      rw [nm]
      have : (if (⟨r, u, k, a⟩ : Way).text.head? = some 47 then [47] else ([] : List Nat)) = List.replicate (min r 1) 47 := by
        by_cases q : 0 < r
        · rw [if_pos (hroot.mpr q), show min r 1 = 1 from by lia]; rfl
        · rw [if_neg (fun e => q (hroot.mp e)), show min r 1 = 0 from by lia]; rfl
      rw [this]
    · have hr : r = 0 := by
        by_cases q : r = 0
        · exact q
        · have q1 := v2 q
          have q2 := w2 (by lia)
          lia
      rw [if_pos (show u ≠ u' from hu), if_neg (fun e => by have := hroot.mp e; lia), List.nil_append]
      show DS _ = DS _
      congr 2
      rcases Nat.lt_or_gt_of_ne hu with q | q
      · obtain ⟨d, rfl⟩ : ∃ d, u' = u + (d + 1) := ⟨u' - u - 1, by lia⟩
        rw [show List.replicate (u + (d + 1)) [46, 46] = List.replicate u [46, 46] ++ List.replicate (d + 1) [46, 46] from List.replicate_append_replicate.symm, List.append_assoc, lcp_rep, lcp_dots (by lia), List.append_nil, Nat.min_eq_left (by lia)]
      · obtain ⟨d, rfl⟩ : ∃ d, u = u' + (d + 1) := ⟨u - u' - 1, by lia⟩
        rw [show List.replicate (u' + (d + 1)) [46, 46] = List.replicate u' [46, 46] ++ List.replicate (d + 1) [46, 46] from List.replicate_append_replicate.symm, List.append_assoc, lcp_rep, lcp_comm, lcp_dots (by lia), List.append_nil, Nat.min_eq_right (by lia)]
  · rw [if_neg (mt hq.mp h), if_pos (by simpa using h)]
    rfl

/-! what is seen of one way -/
theorem dw_nil {p : Nat → Bool} : ∀ {l : List Nat}, (∀ x ∈ l, p x = true) → l.dropWhile p = []
  | [], _ => rfl
  | a :: r, h => by rw [List.dropWhile_cons_of_pos (h a (.head _))]; exact dw_nil fun x hx => h x (.tail _ hx)
theorem last_free {t : List Nat} (h : 47 ∉ t) : t.reverse.dropWhile (· != 47) = [] ∧ t.reverse.takeWhile (· != 47) = t.reverse := by
  have h' : ∀ x ∈ t.reverse, (x != 47) = true := fun x hx => by
    have : x ≠ 47 := fun e => h (e ▸ List.mem_reverse.mp hx)
    simpa using this
  exact ⟨dw_nil fun x hx => h' x hx, by
    have := List.takeWhile_append_dropWhile (p := (· != 47)) (l := t.reverse)
    rw [dw_nil (fun x hx => h' x hx), List.append_nil] at this
    exact this⟩
theorem last_no {t : List Nat} (h : 47 ∉ t) : lastL t = ([], t) := by
  unfold lastL
  rw [(last_free h).1, (last_free h).2, List.reverse_reverse]; rfl
theorem last_cut {a t : List Nat} (h : 47 ∉ t) : lastL (a ++ 47 :: t) = (a ++ [47], t) := by
  unfold lastL
  have h1 : (a ++ 47 :: t).reverse = t.reverse ++ 47 :: a.reverse := by simp
  have h2 : ∀ x ∈ t.reverse, (x != 47) = true := fun x hx => by
    have : x ≠ 47 := fun e => h (e ▸ List.mem_reverse.mp hx)
    simpa using this
  rw [h1, List.dropWhile_append_of_pos h2, List.takeWhile_append_of_pos h2]
  rw [List.dropWhile_cons_of_neg (by simp), List.takeWhile_cons_of_neg (by simp)]
  simp
theorem rstrip_one {a : List Nat} (h : a.getLast? ≠ some 47) : rstripL 47 (a ++ [47]) = a := by
  unfold rstripL
  rw [List.reverse_append]
  show (List.dropWhile _ (47 :: a.reverse)).reverse = a
  rw [List.dropWhile_cons_of_pos (by simp)]
  cases hr : a.reverse with
  | nil =>
    have := congrArg List.reverse hr
    rw [List.reverse_reverse] at this
    rw [this]; rfl
  | cons x r =>
    have e := congrArg List.reverse hr
    rw [List.reverse_reverse, List.reverse_cons] at e
    rw [List.dropWhile_cons_of_neg, ← hr, List.reverse_reverse]
    intro q
    have q : x = 47 := by simpa using q
    apply h
    rw [e, List.getLast?_append]
    simp [q]
theorem joinL_snoc (x : List Nat) : ∀ {xs : List (List Nat)}, xs ≠ [] → joinL 47 (xs ++ [x]) = joinL 47 xs ++ 47 :: x
  | [a], _ => rfl
  | a :: b :: r, _ => by
    show a ++ 47 :: joinL 47 ((b :: r) ++ [x]) = (a ++ 47 :: joinL 47 (b :: r)) ++ 47 :: x
    rw [joinL_snoc x (by simp), List.append_assoc]; rfl
theorem joinL_last {x : List Nat} (hx : x ≠ []) (xs : List (List Nat)) : (joinL 47 (xs ++ [x])).getLast? = x.getLast? := by
  cases xs with
  | nil => rfl
  | cons y r =>
    rw [joinL_snoc x (by simp), last_app (by simp)]
    show (47 :: x).getLast? = _
    rw [show 47 :: x = [47] ++ x from rfl, last_app hx]
theorem split_text {w : Way} (hw : w.Nrm) : splitPL w.text = w.parts := by
  unfold Way.parts
  by_cases hn : w.names = []
  · rw [if_pos hn]
    by_cases hr : w.root = 0
    · rw [text_dot hr hn, hr]
      rfl
    · rw [text_eq (.inl hr), hn, if_pos hr]
      have h1 := hw.1
      have : w.root = 1 ∨ w.root = 2 := by lia
      rcases this with e | e <;> rw [e] <;> rfl
  · rw [if_neg hn, text_eq (.inr hn)]
    obtain ⟨xs, x, hx⟩ : ∃ xs x, w.names = xs ++ [x] := ⟨w.names.dropLast, w.names.getLast hn, (List.dropLast_concat_getLast hn).symm⟩
    have hxm : x ∈ w.names := by rw [hx]; simp
    have hfree : 47 ∉ x := names_free x hxm
    rw [hx, List.dropLast_concat, List.getLast?_append]
    show splitPL _ = (_, x)
    cases hxs : xs with
    | nil =>
      show splitPL (List.replicate w.root 47 ++ x) = (List.replicate w.root 47 ++ [], x)
      rw [List.append_nil]
      by_cases hr : w.root = 0
      · rw [hr]
        show splitPL ([] ++ x) = ([], x)
        rw [List.nil_append]
        unfold splitPL
        rw [last_no hfree]
        simp
      · obtain ⟨k, hk⟩ := Nat.exists_eq_succ_of_ne_zero hr
        rw [hk, List.replicate_succ', List.append_assoc, List.singleton_append]
        unfold splitPL
        rw [last_cut hfree]
        rw [if_neg]
        rintro ⟨_, q⟩
        apply q
        simp only [List.length_append, List.length_replicate, List.length_singleton]
        rw [← List.replicate_succ']
    | cons y r =>
      have hne : y :: r ≠ [] := by simp
      have hym : ∀ c ∈ y :: r, c ∈ w.names := fun c hc => by rw [hx, hxs]; exact List.mem_append_left _ hc
      rw [joinL_snoc x hne, ← List.append_assoc]
      unfold splitPL
      rw [last_cut hfree]
      obtain ⟨zs, z, hz⟩ : ∃ zs z, y :: r = zs ++ [z] := ⟨(y :: r).dropLast, (y :: r).getLast hne, (List.dropLast_concat_getLast hne).symm⟩
      have hzm : z ∈ w.names := hym z (by rw [hz]; simp)
      have hz0 : z ≠ [] := by rcases names_comp z hzm with rfl | ⟨d, hd, rfl⟩ <;> simp
      have hzl : z.getLast? ≠ some 47 := by
        rcases names_comp z hzm with rfl | ⟨d, hd, rfl⟩
        · simp
        · simp; lia
      have hjl : (joinL 47 (y :: r)).getLast? = z.getLast? := by rw [hz]; exact joinL_last hz0 zs
      have hj0 : joinL 47 (y :: r) ≠ [] := by
        intro e
        rw [e] at hjl
        have := hjl.symm
        simp at this
        exact hz0 this
      have hal : (List.replicate w.root 47 ++ joinL 47 (y :: r)).getLast? ≠ some 47 := by
        rw [last_app hj0, hjl]; exact hzl
      dsimp only
      rw [if_pos, rstrip_one hal]
      refine ⟨by simp, fun q => ?_⟩
      have hmem : ∀ c ∈ joinL 47 (y :: r), c = 47 := fun c hc => by
        have h1 : c ∈ List.replicate w.root 47 ++ joinL 47 (y :: r) ++ [47] := List.mem_append_left _ (List.mem_append_right _ hc)
        rw [q] at h1
        exact List.eq_of_mem_replicate h1
      obtain ⟨c, hc⟩ : ∃ c, (joinL 47 (y :: r)).getLast? = some c := ⟨_, List.getLast?_eq_some_getLast hj0⟩
      have := hmem c (List.mem_of_getLast? hc)
      subst this
      rw [hjl] at hc
      exact hzl hc
theorem seen_ok {sp : List Nat} {w : Way} (h : Sp sp w) : seenB w sp = true := by
  have hw := h.nrm
  unfold seenB
  have h1 := h.norm
  have h2 := (Sp.text hw).norm
  have h3 := text_root hw
  have h4 : splitrootL w.text = (List.replicate w.root 47, w.text.drop w.root) := by
    by_cases q : w.root ≠ 0 ∨ w.names ≠ []
    · rw [sr_text hw q, text_eq q]
      rw [List.drop_left' (by simp)]
    · have q1 : w.root = 0 := by
        by_cases e : w.root = 0
        · exact e
        · exact absurd (.inl e) q
      have q2 : w.names = [] := by
        by_cases e : w.names = []
        · exact e
        · exact absurd (.inr e) q
      rw [text_dot q1 q2, q1]; rfl
  have h5 := split_text hw
  rw [decide_eq_true h1, decide_eq_true h2, decide_eq_true h4, decide_eq_true h5]
  by_cases q : 0 < w.root
  · rw [decide_eq_true (h3.mpr q), decide_eq_true q]; rfl
  · rw [decide_eq_false (fun e => q (h3.mp e)), decide_eq_false q]; rfl
end Mine
end
section
open PySem PySem.W PySem.Calls PyProof.Rows PyProof.V
namespace Mine

/-! the law's own texts -/
theorem piece_sp {f : Nat} (hf : f < 24) : Comp (pieceL f).1 ∧ unit (pieceL f).1 = (pieceL f).2 := by
  unfold pieceL
  split
  · rename_i h
    exact ⟨.inr (.inr (.inr ⟨f, h, rfl⟩)), unit_let h⟩
  · split
    · exact ⟨.inr (.inr (.inl rfl)), unit_dots⟩
    · rename_i h1 h2
      have : f = 22 ∨ f = 23 := by lia
      rcases this with rfl | rfl
      · exact ⟨.inr (.inl rfl), unit_dot⟩
      · exact ⟨.inl rfl, unit_nil⟩
theorem goes_prod : ∀ {ps : List (List Nat × Way)} {w : Way}, w.val < 16 ^ w.cnt → (∀ p ∈ ps, Comp p.1 ∧ unit p.1 = p.2) → goes w (ps.map (·.1)) = w.times (prodW ps) := by
  intro ps
  induction ps with
  | nil => intro w _ _; exact (times_zero w).symm
  | cons p ps ih =>
    intro w hw h
    obtain ⟨h1, h2⟩ := h p (.head _)
    have hv := (unit_nrm h1).1.2.2
    show goes (w.times (unit p.1)) (ps.map (·.1)) = w.times (p.2.times (prodW ps))
    rw [ih (times_val hw hv) fun q hq => h q (.tail _ hq), ← h2, times_assoc hv]
theorem spell_sp {l : List Int} (hl : l ≠ []) : Sp (spellOf l) (wayOf l) := by
  have hp : ∀ p ∈ piecesOf l, Comp p.1 ∧ unit p.1 = p.2 := fun p hp => by
    obtain ⟨f, hf, rfl⟩ := piecesOf_mem hp
    exact piece_sp hf
  have hlen := piecesOf_len l
  have hne : piecesOf l ≠ [] := fun e => by
    rw [e] at hlen
    have : l.length = 0 := by simp at hlen; lia
    exact hl (List.length_eq_zero_iff.mp this)
  have hfr := fronts_le l
  unfold spellOf wayOf
  generalize piecesOf l = ps at hp hne
  generalize frontsOf l = k at hfr
  obtain ⟨q, qs, rfl⟩ := List.exists_cons_of_ne_nil hne
  have hq := hp q (.head _)
  -- the first name as it is written
  have hc : Comp (if q.1 = [] then [46] else q.1) ∧ unit (if q.1 = [] then [46] else q.1) = q.2 ∧ (if q.1 = [] then [46] else q.1) ≠ [] := by
    by_cases e : q.1 = []
    · rw [if_pos e]
      refine ⟨.inr (.inl rfl), ?_, by simp⟩
      rw [unit_dot, ← unit_nil, ← e]
      exact hq.2
    · rw [if_neg e]; exact ⟨hq.1, hq.2, e⟩
  have hall : ∀ c ∈ spellP (q :: qs), Comp c := fun c hcm => by
    rcases List.mem_cons.mp hcm with e | e
    · rw [e]; exact hc.1
    · obtain ⟨r, hr, rfl⟩ := List.mem_map.mp e
      exact (hp r (.tail _ hr)).1
  have hgo : goes ⟨k, 0, 0, 0⟩ (spellP (q :: qs)) = (⟨k, 0, 0, 0⟩ : Way).times (prodW (q :: qs)) := by
    have h1 := goes_prod (ps := qs) (w := (⟨k, 0, 0, 0⟩ : Way).times q.2) (times_val (by simp) (hq.2 ▸ (unit_nrm hq.1).1.2.2)) fun r hr => hp r (.tail _ hr)
    show goes ((⟨k, 0, 0, 0⟩ : Way).times (unit (if q.1 = [] then [46] else q.1))) (qs.map (·.1)) = _
    rw [hc.2.1, h1, times_assoc (hq.2 ▸ (unit_nrm hq.1).1.2.2)]
    rfl
  have hsp : splitL 47 (joinL 47 (spellP (q :: qs))) = spellP (q :: qs) := splitL_join (by simp [spellP]) fun c h => (hall c h).free
  have hhd : (joinL 47 (spellP (q :: qs))).head? ≠ some 47 ∧ joinL 47 (spellP (q :: qs)) ≠ [] := by
    have h1 := joinL_head (x := if q.1 = [] then [46] else q.1) (xs := qs.map (·.1)) hc.2.2
    refine ⟨fun e => ?_, h1.2⟩
    have h2 : (if q.1 = [] then [46] else q.1).head? = some 47 := h1.1.symm.trans e
    exact hc.1.free (List.mem_of_head? h2)
  generalize joinL 47 (spellP (q :: qs)) = t at hsp hhd
  have hsr : splitrootL (List.replicate k 47 ++ t) = (List.replicate k 47, t) := by
    have hk : k = 0 ∨ k = 1 ∨ k = 2 := by lia
    obtain ⟨a, r, rfl⟩ := List.exists_cons_of_ne_nil hhd.2
    have ha : a ≠ 47 := by simpa using hhd.1
    rcases hk with rfl | rfl | rfl
    · exact sr_rel hhd.1
    · show splitrootL (47 :: a :: r) = _
      simp [splitrootL, ha]
    · show splitrootL (47 :: 47 :: a :: r) = _
      simp [splitrootL, ha]
  refine ⟨fun e => hhd.2 (List.append_eq_nil_iff.mp e).2, ?_, ?_⟩
  · rw [hsr]
    show ∀ c ∈ splitL 47 t, Comp c
    rw [hsp]; exact hall
  · rw [hsr]
    show goes ⟨(List.replicate k 47).length, 0, 0, 0⟩ (splitL 47 t) = _
    rw [hsp, List.length_replicate]; exact hgo

inductive SpAll : List (List Nat) → List Way → Prop
  | nil : SpAll [] []
  | cons {l : List Nat} {w : Way} {ls : List (List Nat)} {ws : List Way} (h : Sp l w) (t : SpAll ls ws) : SpAll (l :: ls) (w :: ws)
theorem SpAll.app {a c : List (List Nat)} {b d : List Way} (h : SpAll a b) (g : SpAll c d) : SpAll (a ++ c) (b ++ d) := by
  induction h with
  | nil => exact g
  | cons h t ih => exact .cons h ih
theorem SpAll.map {α : Type} {f : α → List Nat} {g : α → Way} : ∀ {l : List α}, (∀ x ∈ l, Sp (f x) (g x)) → SpAll (l.map f) (l.map g)
  | [], _ => .nil
  | x :: l, h => .cons (h x (.head _)) (SpAll.map fun y hy => h y (.tail _ hy))
theorem SpAll.get {ls : List (List Nat)} {ws : List Way} (h : SpAll ls ws) : ∀ i, i < ls.length → Sp (ls.getD i []) (ws.getD i zeroW) := by
  induction h with
  | nil => intro i hi; simp at hi
  | cons h t ih =>
    intro i hi
    cases i with
    | zero => exact h
    | succ i => exact ih i (by simpa using hi)
theorem SpAll.nrm {ls : List (List Nat)} {ws : List Way} (h : SpAll ls ws) : ∀ w ∈ ws, w.Nrm := by
  induction h with
  | nil => intro w hw; cases hw
  | cons h t ih =>
    intro w hw
    rcases List.mem_cons.mp hw with rfl | hw
    · exact h.nrm
    · exact ih w hw
theorem foldr_times : ∀ {ws : List Way} {v : Way}, (∀ w ∈ ws, w.Nrm) → v.Nrm → ws.foldl Way.times v = v.times (ws.foldr Way.times zeroW) := by
  intro ws
  induction ws with
  | nil => intro v _ _; exact (times_zero v).symm
  | cons w ws ih =>
    intro v h hv
    have hw := h w (.head _)
    show ws.foldl Way.times (v.times w) = v.times (w.times (ws.foldr Way.times zeroW))
    rw [ih (fun x hx => h x (.tail _ hx)) (times_nrm hv hw), times_assoc hw.2.2]
theorem SpAll.joins {ls : List (List Nat)} {ws : List Way} (h : SpAll ls ws) : ∀ {l : List Nat} {w : Way}, Sp l w → Sp (ls.foldl joinStep l) (ws.foldl Way.times w) := by
  induction h with
  | nil => exact fun h => h
  | cons h t ih => exact fun g => ih (g.join h)
theorem SpAll.ahead {ls : List (List Nat)} {ws : List Way} (h : SpAll ls ws) : ∀ {l : List Nat} {w : Way}, Sp l w → Sp (ls.foldl njoin l) (ws.foldl Way.times w) := by
  induction h with
  | nil => exact fun h => h
  | cons h t ih => exact fun g => ih (g.njoin h).2
theorem SpAll.back {ls : List (List Nat)} {ws : List Way} (h : SpAll ls ws) : ∀ {l : List Nat} {w : Way}, Sp l w → Sp (ls.foldr njoin l) (ws.foldr Way.times w) := by
  induction h with
  | nil => exact fun h => h
  | cons h t ih => exact fun g => (h.njoin (ih g)).2
theorem njoins_text {ls : List (List Nat)} {ws : List Way} (h : SpAll ls ws) (hne : ls ≠ []) {l : List Nat} {w : Way} (g : Sp l w) : ls.foldl njoin l = (ws.foldl Way.times w).text ∧ ls.foldr njoin l = (ws.foldr Way.times w).text := by
  constructor
  · induction h generalizing l w with
    | nil => exact absurd rfl hne
    | @cons a b c d h t ih =>
      by_cases e : c = []
      · subst e
        cases t
        exact (g.njoin h).1
      · exact ih e (g.njoin h).2
  · cases h with
    | nil => exact absurd rfl hne
    | cons h t => exact (h.njoin (t.back g)).1
end Mine
end
section
open PySem PySem.W PySem.Calls PyProof.Rows PyProof.V
namespace Mine

theorem SpAll.cut {b : List (List Nat)} : ∀ {a : List (List Nat)} {ws : List Way}, SpAll (a ++ b) ws → ∃ u v, ws = u ++ v ∧ SpAll a u ∧ SpAll b v
  | [], ws, h => ⟨[], ws, rfl, .nil, h⟩
  | x :: a, _, .cons h t => by
    obtain ⟨u, v, rfl, h1, h2⟩ := SpAll.cut t
    exact ⟨_ :: u, v, rfl, .cons h h1, h2⟩
theorem SpAll.take1 {ls : List (List Nat)} {ws : List Way} (h : SpAll ls ws) : SpAll (ls.take 1) (ws.take 1) := by
  cases h with
  | nil => exact .nil
  | cons h t => exact .cons h .nil
theorem chain_ok2 {sps : List (List Nat)} {ws : List Way} (h : SpAll sps ws) (hne : sps ≠ []) : normL ((chainOf sps).tail.foldl joinStep ((chainOf sps).headD [])) = (wholeW ws).text ∧ aheadL (chainOf sps) = (wholeW ws).text ∧ backL (chainOf sps) = (wholeW ws).text := by
  have hc : SpAll (chainOf sps) (ws ++ ws.take 1) := h.app h.take1
  have hl : 2 ≤ (chainOf sps).length := by
    obtain ⟨x, r, rfl⟩ := List.exists_cons_of_ne_nil hne
    simp [chainOf]
  unfold wholeW aheadL backL
  generalize chainOf sps = ch at hc hl
  generalize ws ++ ws.take 1 = wz at hc
  have hfirst : normL (ch.tail.foldl joinStep (ch.headD [])) = (wz.foldr Way.times zeroW).text ∧ ch.tail.foldl njoin (ch.headD []) = (wz.foldr Way.times zeroW).text := by
    cases hc with
    | nil => simp at hl
    | @cons l w ls ws h t =>
      have hn : ls ≠ [] := fun e => by rw [e] at hl; simp at hl
      have e := foldr_times t.nrm h.nrm
      exact ⟨by rw [show (w :: ws).foldr Way.times zeroW = w.times (ws.foldr Way.times zeroW) from rfl, ← e]; exact (t.joins h).norm,
        by rw [show (w :: ws).foldr Way.times zeroW = w.times (ws.foldr Way.times zeroW) from rfl, ← e]; exact (njoins_text t hn h).1⟩
  refine ⟨hfirst.1, hfirst.2, ?_⟩
  have hne2 : ch ≠ [] := fun e => by rw [e] at hl; simp at hl
  obtain ⟨init, z, hz⟩ : ∃ init z, ch = init ++ [z] := ⟨ch.dropLast, ch.getLast hne2, (List.dropLast_concat_getLast hne2).symm⟩
  subst hz
  obtain ⟨u, v, rfl, h1, h2⟩ := hc.cut
  cases h2 with
  | cons h t =>
    cases t
    have hi : init ≠ [] := fun e => by rw [e] at hl; simp at hl
    rw [List.dropLast_concat, List.getLastD_eq_getLast?, List.getLast?_append, List.foldr_append]
    show init.foldr njoin z = (u.foldr Way.times (Way.times _ zeroW)).text
    rw [times_zero]
    exact (njoins_text h1 hi h).2

theorem rowsL_mem {ws : List Way} {n : Nat} {c : Nat → Nat → Bool} {i : Nat} {r : Row} (h : r ∈ rowsL ws n c i) : ∃ a b, a < i ∧ b < n ∧ r = rowW ws a b := by
  obtain ⟨a, ha, hr⟩ := List.mem_flatMap.mp h
  obtain ⟨b, hb, rfl⟩ := List.mem_map.mp hr
  exact ⟨a, b, List.mem_range.mp ha, List.mem_range.mp (List.mem_filter.mp hb).1, rfl⟩
theorem rowsL_six {ws : List Way} {n : Nat} (hn : n = 2 ∨ n = 3) : ((rowsL ws n leB n).length = 2 ∨ (rowsL ws n leB n).length = 3 ∨ (rowsL ws n leB n).length = 6) ∧ ((rowsL ws n geB n).length = 2 ∨ (rowsL ws n geB n).length = 3 ∨ (rowsL ws n geB n).length = 6) := by
  rcases hn with rfl | rfl
  · exact ⟨.inr (.inl rfl), .inr (.inl rfl)⟩
  · exact ⟨.inr (.inr rfl), .inr (.inr rfl)⟩

theorem spell_len {l : List Int} (hl : l.length ≤ 6) : (spellOf l).length ≤ 40 := by
  have hfr := fronts_le l
  have hps := piecesOf_len l
  have hm : ∀ x ∈ spellP (piecesOf l), x.length ≤ 2 := spellP_mem fun q hq => by
    obtain ⟨f, hf, rfl⟩ := piecesOf_mem hq
    exact piece_txt hf
  have hj := joinL_len hm
  rw [spellP_len, hps] at hj
  unfold spellOf
  rw [List.length_append, List.length_replicate]
  lia

set_option maxHeartbeats 4000000 in
theorem law_walk {p : FnP} {a : Addr} {vs : List Value} {ns : List Int} (hh : (lawC p).A.handled = none) (hS : p.hB.IsList a vs.toArray) (hi : IntsAre vs ns) (hz : ns.length ≤ 63) :
    ExJ (lawC p) [("script", .val (.ref a))] (bodyOf "law") (RetIs (.dat (.bool true))) := by
  have hvl : vs.length = ns.length := by
    have := (datInts (Φ := []) hi).length
    rw [this, List.length_map]
  refine law_s1 hh hS hi (by rw [hvl]; exact hz) ?_
  have hn : manyOf ns = 2 ∨ manyOf ns = 3 := by have := many_le ns; lia
  have hw : (waysOf ns).length = manyOf ns := by simp [waysOf]
  have hs : (spellsOf ns).length = manyOf ns := by simp [spellsOf]
  have hwi : ∀ w ∈ waysOf ns, w.In 12 := fun w hw => by
    obtain ⟨t, ht, rfl⟩ := List.mem_map.mp hw
    have h1 := (picked_ok ns (List.mem_range.mp ht)).1
    exact (wayOf_in _).mono (by lia)
  have hsl : ∀ x ∈ spellsOf ns, x.length ≤ 40 := fun x hx => by
    obtain ⟨t, ht, rfl⟩ := List.mem_map.mp hx
    exact spell_len (picked_ok ns (List.mem_range.mp ht)).1
  have hsp : SpAll (spellsOf ns) (waysOf ns) := SpAll.map fun t zz1 => spell_sp (picked_ne ns _ t)
  generalize waysOf ns = ws at hw hwi hsp
  generalize spellsOf ns = sps at hs hsl hsp
  generalize manyOf ns = n at hn hw hs
  have hne : sps ≠ [] := fun e => by rw [e] at hs; simp at hs; lia
  refine law_s2 hh hn hw hs hwi hsl (chain_ok2 hsp hne) ?_
  have hg : ∀ i, i < n → Sp (sps.getD i []) (ws.getD i zeroW) := fun i hi => hsp.get i (by lia)
  have hgw : ∀ i, i < n → (ws.getD i zeroW).In 12 := fun i hi => by
    have h1 : ws[i]? = some ws[i] := List.getElem?_eq_getElem (by lia)
    rw [List.getD_eq_getElem?_getD, h1]
    exact hwi _ (List.getElem_mem _)
  refine law_s3 hh hn hw hs hwi hsl (fun i j hi hj => ((hg i hi).njoin (hg j hj)).1) ?_
  have hrow : ∀ c r, r ∈ rowsL ws n c n → r.Is ∧ r.Ok ∧ r.2.2.In 24 ∧ r.2.1.length ≤ 900 := fun c r hr => by
    obtain ⟨i, j, hi, hj, rfl⟩ := rowsL_mem hr
    have h1 := times_in (hgw i hi) (hgw j hj)
    have h2 := times_nrm (hg i hi).nrm (hg j hj).nrm
    have h3 := text_len (h1.ok (by lia)) (by have := h1.2.1; have := h1.2.2.1; lia)
    exact ⟨⟨rfl, rfl, h2, h1.2.2.1⟩, asc_text _, h1, Nat.le_trans h3 (by lia)⟩
  have hlen := rowsL_six (ws := ws) hn
  have hL := hrow leB
  have hR := hrow geB
  generalize rowsL ws n leB n = L at hlen hL
  generalize rowsL ws n geB n = R at hlen hR
  have oL := once_txts hlen.1 fun r hr => (hL r hr).1
  have oR := once_txts hlen.2 fun r hr => (hR r hr).1
  refine law_s4 hh hlen.1 hlen.2 (fun r hr => (hL r hr).2.1) (fun r hr => (hR r hr).2.1) (fun x hx y hy => (hL x hx).1.key (hL y hy).1) (fun x hx y hy => (hR x hx).1.key (hR y hy).1) ⟨oL.1, oL.2.1⟩ ⟨oR.1, oR.2.1⟩ (sld_rows oL.2.2 oR.2.2 oL.1 oR.1) ?_
  refine law_s5 hh hn hw hs hwi hsl (fun r hr => (hL r hr).2) (fun r hr => (hR r hr).2) (by lia) (fun q hq => cmp_rows (hL _ (List.of_mem_zip hq).1).1 (hR _ (List.of_mem_zip hq).2).1) (fun q hq => ?_) fun i hi => seen_ok (hg i hi)
  obtain ⟨_, a2, a3, _⟩ := (hL _ (List.of_mem_zip hq).1).1
  obtain ⟨_, b2, b3, _⟩ := (hR _ (List.of_mem_zip hq).2).1
  have := common_rows a3 b3
  rw [← a2, ← b2] at this
  exact this
end Mine
end
section
open PySem PySem.W PySem.Calls PyProof.Rows PyProof.V
namespace Mine

/-! the head: the text's top, run by the kernel -/
noncomputable def keepB : Stmt → Bool
  | .FunctionDef .. => true
  | .ClassDef .. => true
  | _ => false
noncomputable def vw : Program := { P with main := { P.main with body := P.main.body.filter keepB } }
set_option maxHeartbeats 8000000 in
theorem left : LeftO P vw [] (fun s => xlAt vw [] s && recOk (RowW.records PySem.Challenge.rw_il0073_01.row.toRowW) s) (Hook.obs Hook.none) (Hook.val Hook.none) 2892 := fun w => by kernel_rfl
theorem chains : (chainsOk vw && opensWell PySem.Challenge.rw_il0073_01.row.prog && (frees PySem.Challenge.rw_il0073_01.row.toRowW && PySem.Challenge.rw_il0073_01.row.within.isEmpty)) = true := by kernel_rfl

theorem defs_said : (fnNames.map fun x => (recsOf vw).findSome? fun d => if d.name == x then some (some (d.params, d.body, d.scope)) else none) = fnNames.map fun x => some (defOf x P.main.body) := by kernel_rfl
theorem defs_some : (fnNames.all fun x => (defOf x P.main.body).isSome) = true := by kernel_rfl
theorem bi_free : (biNames.all fun x => decide (x ∉ startupNames) && decide (x ∉ looseW vw []) && decide (x ∉ (recsOf vw).map (·.name)) && decide (x ∉ (litsOf vw).map (·.1)) && decide (x ∉ (clssOf vw (looseW vw [])).map (·.name)) && decide (x ≠ "__name__")) = true := by kernel_rfl
theorem wdOf {w : World} {mean : ExcName → Option Value} {mg mb : Str → Option Value} {h : Heap} (T : Top vw (looseW vw []) mean mg mb h) : Wd w mg mb h where
  g := T.g
  b := T.b
  lim := T.nolimit
  bi := fun x hx => by
    have := List.all_eq_true.mp bi_free x hx
    simp only [Bool.and_eq_true, decide_eq_true_eq] at this
    obtain ⟨⟨⟨⟨⟨h1, h2⟩, h3⟩, h4⟩, h5⟩, h6⟩ := this
    exact ⟨T.free x h1 h2 h3 h4 h5, T.builtins x h6⟩
  fns := fun x hx => by
    have h1 := List.map_inj_left.mp defs_said x hx
    have h2 := List.all_eq_true.mp defs_some x hx
    obtain ⟨⟨pr, bd, sc⟩, h3⟩ := Option.isSome_iff_exists.mp h2
    obtain ⟨d, hd, h4⟩ := List.exists_of_findSome?_eq_some h1
    cases hb : d.name == x with
    | false => rw [hb] at h4; cases h4
    | true =>
      rw [hb, if_pos rfl] at h4
      have hn := beq_iff_eq.mp hb
      have h5 := Option.some.inj h4
      rw [h3] at h5
      have h6 := Option.some.inj h5
      obtain ⟨a, o, pm, code, doc, m1, m2, m3, m4⟩ := T.fn d hd
      rw [hn] at m1 m4
      cases h6
      subst hn
      exact ⟨a, o, _, _, _, doc, pm, _, code, _, h3, m1, m2, m3, m4⟩
end Mine
end
section
open PySem PySem.W PySem.Calls PyProof.Rows PyProof.V
namespace Mine

theorem said : PySem.Challenge.rw_il0073_01.wellSaid = true := by kernel_rfl
theorem lawRuns {w : World} {mg mb : Str → Option Value} {h₁ : Heap} {s₁ : Shared} {tk : Nat} {fa a : Addr} {cd : Value} {vs : List Value} (hwalk : ∀ p : FnP, (lawC p).A.handled = none → p.hB.IsList a vs.toArray → ExJ (lawC p) [("script", .val (.ref a))] (bodyOf "law") (RetIs (.dat (.bool true))))
    (hL : s₁.heap.IsList a vs.toArray)
    (H : At (lawC ⟨w, mg, mb, s₁.heap, s₁.heap, [], s₁.heap.objs.size, fa, cd, [], callerA, s₁.gens, s₁.os⟩) [] [] [("script", .val (.ref a))] { heap := h₁, gens := s₁.gens, drawn := s₁.drawn, toks := tk, os := s₁.os })
    {Q : Flow → Shared → Prop} {E : Value → Shared → Prop} (hq : ∀ s' m, Fr s₁.heap s₁.heap.objs.size s'.heap m → s'.gens = s₁.gens → s'.os = s₁.os → Q (.ret (.bool true)) s') :
    wpAny (model P w) (callerA.deeper (fnEnv "law" (scopeOf "law") s₁.heap.objs.size fa cd)) (execs (bodyOf "law") (fnEnv "law" (scopeOf "law") s₁.heap.objs.size fa cd)) Q E { heap := h₁, gens := s₁.gens, drawn := s₁.drawn, toks := tk, os := s₁.os } := by
  obtain ⟨f, H⟩ := H
  refine wpAny_mono (hwalk ⟨w, mg, mb, s₁.heap, s₁.heap, [], s₁.heap.objs.size, fa, cd, [], callerA, s₁.gens, s₁.os⟩ rfl hL [] [] f _ H) (fun fl s2 hd => ?_) fun e s2 hd => ?_
  · obtain ⟨Φ', o', g1, g2, g3⟩ := hd
    cases g3.got with
    | next h => cases g2
    | brk h => exact g2.elim
    | cont h => exact g2.elim
    | ret h g4 =>
      obtain ⟨f2, g5⟩ := h
      have e : _ = AV.dat (.bool true) := g2
      rw [e] at g4
      cases g4
      exact hq _ _ g5.fr g5.gens g5.os
  · obtain ⟨_, _, _, _, _, q, _⟩ := hd
    exact q.elim
set_option maxHeartbeats 8000000 in
theorem hx (hwalk : ∀ (p : FnP) (a : Addr) (vs : List Value) (ns : List Int), (lawC p).A.handled = none → p.hB.IsList a vs.toArray → IntsAre vs ns → ns.length ≤ 63 → ExJ (lawC p) [("script", .val (.ref a))] (bodyOf "law") (RetIs (.dat (.bool true)))) : PySem.Challenge.rw_il0073_01.Holds := by
  w_on
  refine holds_law said fun said => ?_
  refine holds_open (q := vw) (loose := []) (Xt := fun s => xlAt vw [] s && recOk (RowW.records PySem.Challenge.rw_il0073_01.row.toRowW) s) (XP := XL vw []) (Yf := Hook.obs Hook.none) (Ya := Hook.val Hook.none) (YP := Hook.says Hook.none) (N := 2892) left (Hook.of Hook.none) (Hook.keeps Hook.none) (fun s e => xl_of s (Bool.and_eq_true_iff.mp e).1) XL.keeps (by rfl) (by rfl) (by rfl) (fun s e => recFacts_of (Bool.and_eq_true_iff.mp e).2) (by rfl) said chains ⟨rfl, rfl, rfl, rfl, rfl, by decide +kernel⟩ ?hw ?hc
  case hw => exact ⟨[.list []], by kernel_rfl, by kernel_rfl⟩
  case hc =>
    w_strict (
      intro w s₀ s₁ mg mb G Y fa o pm cd doc dV kV ho hd hcd hD hmg hg args vals as hpre hlay hrd hwl hlo
      refine Ground.open G ?_
      intro T B D TE TW
      clear D
      have TA := at_of_top T
      obtain ⟨_, _, he, B0⟩ := based_of_top T rfl hmg ho hd
      have he' : cd = _ := he
      subst he'
      clear he hmg
      wrow_args hpre hlay hrd hwl hlo
      refine enter_call ?_
      w_top on
      refine codeAny_mono ?_ (fun zz1 zz2 g => GoodW.toG g)
      have K0 := below_caller (Top.heap T)
      w_call any ho hd hcd hD T F
      clear hd TA
      skip)
    rename IntsAre _ _ => hI
    rename Heap.IsList _ _ _ => hL
    rename ¬ _ => hcond
    rename Fr _ _ _ _ => F
    rename News _ _ _ _ => N
    rename CellsAre _ _ _ => X
    refine lawRuns (fun p hh hS => hwalk p _ _ _ hh hS hI (by omega)) hL (enterLaw (wdOf T) F N X) fun s' m F' hg' hos => ?_
    refine goodW_bool F' (hg'.trans hg) (fun cls => ?_) (postW_of ?_ ?_ rfl) hos
    · rfl
    · rfl
    · kernel_rfl
end Mine
end
set_option maxRecDepth 100000 in
theorem PySem.Challenge.cw_il0073_01_holds : PySem.Challenge.rw_il0073_01.Holds := by
  exact Mine.hx fun _ _ _ _ hh hS hi hz => Mine.law_walk hh hS hi hz
