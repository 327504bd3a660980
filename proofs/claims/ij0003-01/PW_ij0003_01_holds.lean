import PyProof.Rows.All
import Wide.All
import OpenK.AllK
import Wide.FinOn
import PySem.Challenge.RW_ij0003_01
open PySem PySem.W PyProof.Rows
set_option Elab.async false

/-! ### W0 -/
section
open PySem PySem.W PyProof.Rows
set_option maxRecDepth 100000
set_option maxHeartbeats 8000000
namespace Kk
open_top hd for PySem.Challenge.rw_ij0003_01
noncomputable abbrev KF : Params → Frag := hd.heap_39
end Kk
end

/-! ### W1 -/
section
open PySem PySem.W PySem.Calls PyProof.Rows
set_option maxRecDepth 100000
set_option maxHeartbeats 8000000
namespace Kk

/-- a tree that does not raise -/
noncomputable abbrev Wp (prog : Program) (w : World) (A : Around) {α : Type} (t : Sem α) (Q : α → Shared → Prop) (s : Shared) : Prop :=
  wpAny (model prog w) A t Q (fun _ _ => False) s

theorem Wp.mono {prog : Program} {w : World} {A : Around} {α : Type} {t : Sem α} {Q Q' : α → Shared → Prop} {s : Shared} (h : Wp prog w A t Q s) (hq : ∀ a s', Q a s' → Q' a s') : Wp prog w A t Q' s :=
  wpAny_mono h hq fun _ _ f => f
theorem Wp.any {prog : Program} {w : World} {A : Around} {α : Type} {t : Sem α} {Q : α → Shared → Prop} {E : Value → Shared → Prop} {s : Shared} (h : Wp prog w A t Q s) : wpAny (model prog w) A t Q E s :=
  wpAny_mono h (fun _ _ q => q) fun _ _ f => f.elim
theorem Wp.anyMono {prog : Program} {w : World} {A : Around} {α : Type} {t : Sem α} {Q Q' : α → Shared → Prop} {E : Value → Shared → Prop} {s : Shared} (h : Wp prog w A t Q s) (hq : ∀ a s', Q a s' → Q' a s') : wpAny (model prog w) A t Q' E s :=
  wpAny_mono h hq fun _ _ f => f.elim

/-- old objects stay, frames' name tables up to their slots; D: what may change -/
noncomputable def Ext (n₀ : Nat) (D : Addr → Prop) (h h' : Heap) : Prop :=
  ∀ b o, h.get? b = some o → ¬ D b →
    h'.get? b = some o ∨ (n₀ ≤ b ∧ (∃ es ep, o.data = .dict es ep) ∧ ∃ sl, h'.get? b = some { o with slots := sl })

noncomputable def D0 (b : Addr) : Prop := b = 16 ∨ b = 93
noncomputable def Dn (_ : Addr) : Prop := False

section
variable {n₀ : Nat} {D D' : Addr → Prop} {h h' h'' : Heap}
theorem Ext.refl : Ext n₀ D h h := fun _ _ e _ => .inl e
theorem Ext.trans (x : Ext n₀ D h h') (y : Ext n₀ D h' h'') : Ext n₀ D h h'' := by
  intro b o e nd
  rcases x b o e nd with e1 | ⟨hb, hd, sl, e1⟩
  · exact y b o e1 nd
  · rcases y b _ e1 nd with e2 | ⟨_, _, sl2, e2⟩
    · exact .inr ⟨hb, hd, sl, e2⟩
    · exact .inr ⟨hb, hd, sl2, e2⟩
theorem Ext.weak (x : Ext n₀ D h h') (k : ∀ b, D b → b < h.objs.size → D' b) : Ext n₀ D' h h' :=
  fun b o e nd => x b o e fun d => nd (k b d (Heap.lt_size e))
theorem Ext.weak0 (x : Ext n₀ Dn h h') : Ext n₀ D h h' := x.weak fun _ f => f.elim
theorem Ext.of_keeps (k : ∀ b o, h.get? b = some o → h'.get? b = some o) : Ext n₀ D h h' := fun b o e _ => .inl (k b o e)
theorem Ext.push (o : Obj) : Ext n₀ D h (h.push o) := .of_keeps fun _ _ e => Heap.get?_push_of_some _ e
/-- an object that is not old, or that may change, turned -/
theorem Ext.turn {a : Nat} (x : Ext n₀ D h h') (hs : Heap.SameBut a h' h'') (ha : h.objs.size ≤ a ∨ D a) : Ext n₀ D h h'' := by
  intro b o e nd
  have ne : b ≠ a := by
    rintro rfl
    rcases ha with ha | ha
    · exact absurd (Heap.lt_size e) (Nat.not_lt.mpr ha)
    · exact nd ha
  rcases x b o e nd with e1 | ⟨hb, hd, sl, e1⟩
  · exact .inl ((hs.2 b ne).trans e1)
  · exact .inr ⟨hb, hd, sl, (hs.2 b ne).trans e1⟩
theorem Ext.but {a : Nat} (x : Ext n₀ D h h') (hs : Heap.ExtBut a h' h'') (ha : h.objs.size ≤ a ∨ D a) : Ext n₀ D h h'' := by
  intro b o e nd
  have ne : b ≠ a := by
    rintro rfl
    rcases ha with ha | ha
    · exact absurd (Heap.lt_size e) (Nat.not_lt.mpr ha)
    · exact nd ha
  rcases x b o e nd with e1 | ⟨hb, hd, sl, e1⟩
  · exact .inl (hs b o ne e1)
  · exact .inr ⟨hb, hd, sl, hs b _ ne e1⟩
/-- facts that stay -/
theorem Ext.get {b : Addr} {o : Obj} (x : Ext n₀ D h h') (e : h.get? b = some o) (nd : ¬ D b) (hd : ∀ es ep, o.data ≠ .dict es ep) : h'.get? b = some o := by
  rcases x b o e nd with e1 | ⟨_, ⟨es, ep, q⟩, _⟩
  · exact e1
  · exact absurd q (hd es ep)
theorem Ext.old {b : Addr} {o : Obj} (x : Ext n₀ D h h') (e : h.get? b = some o) (nd : ¬ D b) (hb : b < n₀) : h'.get? b = some o := by
  rcases x b o e nd with e1 | ⟨hn, _⟩
  · exact e1
  · exact absurd (Nat.lt_of_lt_of_le hb hn) (Nat.lt_irrefl _)
theorem Ext.ns {a : Addr} {m : Str → Option Value} (x : Ext n₀ D h h') (hn : h.Ns a m) (nd : ¬ D a) : h'.Ns a m := by
  obtain ⟨o, es, ep, ho, hd, r⟩ := hn
  rcases x a o ho nd with e1 | ⟨_, _, sl, e1⟩
  · exact ⟨o, es, ep, e1, hd, r⟩
  · exact ⟨_, es, ep, e1, hd, r⟩
theorem Ext.list {l : Addr} {items : Array Value} (x : Ext n₀ D h h') (hl : h.IsList l items) (nd : ¬ D l) : h'.IsList l items := by
  obtain ⟨o, ho, hc, n, hd⟩ := hl
  exact ⟨o, x.get ho nd (by rw [hd]; nofun), hc, n, hd⟩
theorem Ext.cell {c : Addr} {v : Option Value} (x : Ext n₀ D h h') (hc : h.IsCell c v) (nd : ¬ D c) : h'.IsCell c v := by
  obtain ⟨o, ho, hd⟩ := hc
  exact ⟨o, x.get ho nd (by rw [hd]; nofun), hd⟩
theorem Ext.listIter {a l : Addr} {i : Nat} (x : Ext n₀ D h h') (hc : h.IsListIter a l i) (nd : ¬ D a) : h'.IsListIter a l i := by
  obtain ⟨o, ho, hc, hd⟩ := hc
  exact ⟨o, x.get ho nd (by rw [hd]; nofun), hc, hd⟩
end

theorem isList_lt {h : Heap} {l : Nat} {items : Array Value} (hl : h.IsList l items) : l < h.objs.size := let ⟨_, ho, _⟩ := hl; Heap.lt_size ho
theorem isCell_lt {h : Heap} {c : Nat} {v : Option Value} (hl : h.IsCell c v) : c < h.objs.size := let ⟨_, ho, _⟩ := hl; Heap.lt_size ho
theorem isListIter_lt {h : Heap} {a l : Nat} {i : Nat} (hl : h.IsListIter a l i) : a < h.objs.size := let ⟨_, ho, _⟩ := hl; Heap.lt_size ho

theorem ns_lt {h : Heap} {a : Nat} {m : Str → Option Value} (hl : h.Ns a m) : a < h.objs.size := hl.lt

/-- what a run of a part has done: nothing but to the heap and the count of tokens -/
structure Past (n₀ : Nat) (D : Addr → Prop) (s st : Shared) : Prop where
  ext : Ext n₀ D s.heap st.heap
  gens : st.gens = s.gens
  drawn : st.drawn = s.drawn
  os : st.os = s.os
section
variable {n₀ : Nat} {D D' : Addr → Prop} {s st s' : Shared}
theorem Past.refl : Past n₀ D s s := ⟨.refl, rfl, rfl, rfl⟩
theorem Past.to {h : Heap} {tk : Nat} (p : Past n₀ D s st) (x : Ext n₀ D s.heap h) : Past n₀ D s { st with heap := h, toks := tk } := ⟨x, p.gens, p.drawn, p.os⟩
theorem Past.trans (p : Past n₀ D s st) (q : Past n₀ D st s') : Past n₀ D s s' := ⟨p.ext.trans q.ext, q.gens.trans p.gens, q.drawn.trans p.drawn, q.os.trans p.os⟩
theorem Past.push (p : Past n₀ D s st) (o : Obj) (tk : Nat) : Past n₀ D s { st with heap := st.heap.push o, toks := tk } := p.to (p.ext.trans (Ext.push o))
theorem Past.turn {a : Nat} {h : Heap} (p : Past n₀ D s st) (hs : Heap.SameBut a st.heap h) (ha : s.heap.objs.size ≤ a) (tk : Nat) : Past n₀ D s { st with heap := h, toks := tk } := p.to (p.ext.turn hs (.inl ha))
theorem Past.but {a : Nat} {h : Heap} (p : Past n₀ D s st) (hs : Heap.ExtBut a st.heap h) (ha : s.heap.objs.size ≤ a) (tk : Nat) : Past n₀ D s { st with heap := h, toks := tk } := p.to (p.ext.but hs (.inl ha))
theorem Past.weak0 (p : Past n₀ Dn s st) : Past n₀ D s st := ⟨p.ext.weak0, p.gens, p.drawn, p.os⟩
end

/-- what the start says -/
structure Base (w : World) (H : Heap) (mg mb : Str → Option Value) : Prop where
  X : (KF w.params).In H
  g : H.Ns mainGlobals mg
  b : H.Ns builtinsNs mb
  nolimit : H.NoLimit
  builtins : ∀ x : Str, x ≠ "__name__" → mb x = bootBuiltins x
  bmain : ∃ bm ob, mg "__builtins__" = some (.ref bm) ∧ bm ≠ builtinsNs ∧ H.get? bm = some ob ∧ ob.cls = .type "module" ∧ ob.dict = some builtinsNs ∧ ob.data = .plain
  no16 : H.get? 16 = none
  no93 : H.get? 93 = none

noncomputable def Frs (n₀ : Nat) (h : Heap) (l : List Env) : Prop :=
  ∀ env ∈ l, env.scope.kind ≠ .module ∧ ∃ L, env.frame = some L ∧ n₀ ≤ L ∧ ∃ o es ep, h.get? L = some o ∧ o.data = .dict es ep

structure Ok (H : Heap) (A : Around) (h : Heap) (k : Nat) : Prop where
  old : ∀ b o, H.get? b = some o → h.get? b = some o
  depth : A.depth + k < recursionLimit
  units : A.units + 20 * k < cLine
  handled : A.handled = none
  frames : ∃ l, A.frames = some l ∧ l ≠ [] ∧ Frs H.objs.size h l

section
variable {w : World} {H : Heap} {mg mb : Str → Option Value} {D : Addr → Prop} {A : Around} {h h' : Heap} {k k' : Nat}

theorem Frs.ext {n₀ : Nat} {l : List Env} (x : Ext n₀ D h h') (f : Frs n₀ h l) (nd : ∀ b, n₀ ≤ b → ¬ D b) : Frs n₀ h' l := fun env he => by
  obtain ⟨hk, L, hf, hL, o, es, ep, ho, hd⟩ := f env he
  refine ⟨hk, L, hf, hL, ?_⟩
  rcases x L o ho (nd L hL) with e1 | ⟨_, _, sl, e1⟩
  · exact ⟨o, es, ep, e1, hd⟩
  · exact ⟨_, es, ep, e1, hd⟩
/-- D is of old tables alone -/
noncomputable def Dok (H : Heap) (D : Addr → Prop) : Prop := (∀ b o, H.get? b = some o → ¬ D b) ∧ ∀ b, H.objs.size ≤ b → ¬ D b
theorem Dok.nil : Dok H Dn := And.intro (fun _ _ _ f => f) (fun _ _ f => f)
theorem Base.dok (B : Base w H mg mb) (n93 : 93 < H.objs.size) : Dok H D0 := by
  refine And.intro (fun b o e d => ?_) (fun b hb d => ?_)
  · rcases d with rfl | rfl
    · rw [B.no16] at e; cases e
    · rw [B.no93] at e; cases e
  · rcases d with rfl | rfl
    · exact absurd (Nat.lt_of_lt_of_le n93 hb) (by decide)
    · exact absurd (Nat.lt_of_lt_of_le n93 hb) (by decide)

theorem Ok.ext (x : Ext H.objs.size D h h') (o : Ok H A h k) (nd : Dok H D) : Ok H A h' k :=
  ⟨fun b ob e => x.old (o.old b ob e) (nd.1 b ob e) (Heap.lt_size e), o.depth, o.units, o.handled, let ⟨l, hl, ne, f⟩ := o.frames; ⟨l, hl, ne, f.ext x nd.2⟩⟩
theorem Ok.size (o : Ok H A h k) : H.objs.size ≤ h.objs.size := by
  obtain ⟨l, hl, ne, f⟩ := o.frames
  cases l with
  | nil => exact absurd rfl ne
  | cons env l =>
    obtain ⟨_, L, _, hL, ob, _, _, e, _⟩ := f env (.head _)
    exact Nat.le_of_lt (Nat.lt_of_le_of_lt hL (Heap.lt_size e))
theorem Ok.less (o : Ok H A h k) (hk : k' ≤ k) : Ok H A h k' := ⟨o.old, by have := o.depth; omega, by have := o.units; omega, o.handled, o.frames⟩
/-- a name's store in a frame, or another object's turn -/
theorem Ok.turn {a : Nat} (o : Ok H A h k) (hs : Heap.SameBut a h h') (ha : H.objs.size ≤ a) (hd : (∃ m, h'.Ns a m) ∨ (∃ ob, h.get? a = some ob ∧ ∀ es ep, ob.data ≠ .dict es ep)) : Ok H A h' k :=
  ⟨fun b ob e => (hs.2 b (Nat.ne_of_lt (Nat.lt_of_lt_of_le (Heap.lt_size e) ha))).trans (o.old b ob e), o.depth, o.units, o.handled,
   let ⟨l, hl, ne, f⟩ := o.frames
   ⟨l, hl, ne, fun env he => by
     obtain ⟨hk, L, hf, hL, ob, es, ep, ho, hdd⟩ := f env he
     refine ⟨hk, L, hf, hL, ?_⟩
     by_cases q : L = a
     · subst q
       rcases hd with ⟨m, o', es', ep', e', hd', _⟩ | ⟨ob', e', hd'⟩
       · exact ⟨o', es', ep', e', hd'⟩
       · rw [ho] at e'; cases e'; exact absurd hdd (hd' es ep)
     · exact ⟨ob, es, ep, (hs.2 L q).trans ho, hdd⟩⟩⟩
theorem Ok.but {a : Nat} (o : Ok H A h k) (hs : Heap.ExtBut a h h') (ha : H.objs.size ≤ a) (hd : ∃ ob, h.get? a = some ob ∧ ∀ es ep, ob.data ≠ .dict es ep) : Ok H A h' k :=
  ⟨fun b ob e => hs b ob (Nat.ne_of_lt (Nat.lt_of_lt_of_le (Heap.lt_size e) ha)) (o.old b ob e), o.depth, o.units, o.handled,
   let ⟨l, hl, ne, f⟩ := o.frames
   ⟨l, hl, ne, fun env he => by
     obtain ⟨hk, L, hf, hL, ob, es, ep, ho, hdd⟩ := f env he
     refine ⟨hk, L, hf, hL, ?_⟩
     by_cases q : L = a
     · subst q
       obtain ⟨ob', e', hd'⟩ := hd
       rw [ho] at e'; cases e'; exact absurd hdd (hd' es ep)
     · exact ⟨ob, es, ep, hs L _ q ho, hdd⟩⟩⟩
theorem Ok.push (o : Ok H A h k) (ob : Obj) : Ok H A (h.push ob) k := o.ext (D := Dn) (Ext.push ob) Dok.nil
theorem Ok.K (o : Ok H A h k) (B : Base w H mg mb) : (KF w.params).In h := fun b ob e => o.old _ _ (B.X b ob e)
theorem Ok.gl (o : Ok H A h k) (B : Base w H mg mb) : h.Ns mainGlobals mg := B.g.keeps o.old
theorem Ok.bl (o : Ok H A h k) (B : Base w H mg mb) : h.Ns builtinsNs mb := B.b.keeps o.old
theorem Ok.nolimit (o : Ok H A h k) (B : Base w H mg mb) : h.NoLimit := B.nolimit.keeps o.old
end

section
variable {prog : Program} {w : World} {H : Heap} {mg mb : Str → Option Value} {A : Around} {s : Shared} {k : Nat} {env : Env} {m : Str → Option Value}

/-- a name of the frame's -/
theorem eLocal {x : Str} {pos : Pos} {v : Value} {Q : Value → Shared → Prop} (hn : s.heap.Ns env.locals m) (hv : m x = some v) (h : Q v s)
    (hk : env.scope.kind = .function := by rfl) (hl : env.kindOf x = some .local := by rfl) (hd : (x == ("__debug__" : Str)) = false := by decide) : Wp prog w A (eval (.Name x pos) env) Q s :=
  wpAny_Name (wpAny_loadName_local hk hl hn hv h) hd
theorem eCell {x : Str} {pos : Pos} {c : Addr} {v : Value} {Q : Value → Shared → Prop} (hv : s.heap.IsCell c (some v)) (h : Q v s)
    (hc : env.cells.lookup x = some c := by rfl) (hk : env.scope.kind = .function := by rfl) (hl : env.kindOf x = some .cell := by rfl) (hd : (x == ("__debug__" : Str)) = false := by decide) : Wp prog w A (eval (.Name x pos) env) Q s :=
  wpAny_Name (wpAny_loadName_cell hk hl hc hv h) hd
theorem eFree {x : Str} {pos : Pos} {c : Addr} {v : Value} {Q : Value → Shared → Prop} (hv : s.heap.IsCell c (some v)) (h : Q v s)
    (hc : env.cells.lookup x = some c := by rfl) (hk : env.scope.kind = .function := by rfl) (hl : env.kindOf x = some .free := by rfl) (hd : (x == ("__debug__" : Str)) = false := by decide)
    (hnn : (x == ("__classdict__" : Str)) = false := by decide) : Wp prog w A (eval (.Name x pos) env) Q s :=
  wpAny_Name (wpAny_loadName_free hk hl hc hv h hnn) hd
/-- a name of the module's -/
theorem eGlob {x : Str} {pos : Pos} {v : Value} {Q : Value → Shared → Prop} (B : Base w H mg mb) (o : Ok H A s.heap k) (e : nsIn (KF w.params) mainGlobals x = some (some v)) (h : Q v s)
    (hg : env.globals = mainGlobals := by rfl) (hk : env.scope.kind = .function := by rfl) (hx : env.kindOf x = some .globalImplicit := by rfl) (hd : (x == ("__debug__" : Str)) = false := by decide) :
    Wp prog w A (eval (.Name x pos) env) Q s :=
  Name_function_global hk hx (loadGlobal_global (hg ▸ o.gl B) (mg_of B.X B.g e) h) hd
/-- a built-in name -/
theorem eBuilt {x : Str} {pos : Pos} {v : Value} {Q : Value → Shared → Prop} (B : Base w H mg mb) (o : Ok H A s.heap k) (e : nsIn (KF w.params) mainGlobals x = some none) (hv : bootBuiltins x = some v) (h : Q v s)
    (hn : x ≠ "__name__" := by decide) (hg : env.globals = mainGlobals := by rfl) (hb : env.builtins = builtinsNs := by rfl) (hk : env.scope.kind = .function := by rfl) (hx : env.kindOf x = some .globalImplicit := by rfl) (hd : (x == ("__debug__" : Str)) = false := by decide) :
    Wp prog w A (eval (.Name x pos) env) Q s :=
  Name_function_global hk hx (loadGlobal_builtin (hg ▸ o.gl B) (mg_none_of B.X B.g e) (hb ▸ o.bl B) ((B.builtins x hn).trans hv) h) hd

/-- a call of a def of the text's without cells -/
theorem callFn {f : Addr} {fd : FuncData} {body : List Stmt} {args : List Value} {binds : List (Str × Value)} {Q : Value → Shared → Prop} {oc : Value} {od : Option Addr} {sl : Array (Option Value)} (B : Base w H mg mb) (o : Ok H A s.heap (k + 1))
    (hf : (KF w.params).lookup f = some ⟨oc, od, .func fd, sl⟩) (hcd : codeIn (KF w.params) fd.code fd.qualname = true) (hbody : fd.body = .stmts body) (hbind : bindArgs fd ⟨args, []⟩ = pure binds)
    (hcell : ∀ x ∈ fd.scope.names, x.2 ≠ .cell) (hloc : ∀ x ∈ binds, fd.scope.names.lookup x.1 = some .local)
    (h : ∀ (L : Nat) st, L = s.heap.objs.size → st.heap.Ns L (fun x => binds.reverse.lookup x) → Past H.objs.size Dn s st → Ok H (A.deeper (callEnv fd L f)) st.heap k →
      Wp prog w (A.deeper (callEnv fd L f)) (execs body (callEnv fd L f)) (fun fl s' => Q (match fl with | .ret v => v | _ => .none) s') st)
    (hco : fd.scope.isCoroutine = false := by rfl) (hgen : fd.scope.isGenerator = false := by rfl) (hk : fd.scope.kind = .function := by rfl) : Wp prog w A (call (.ref f) args) Q s := by
  refine wpAny_call (codeAny_call_def (fd := fd) (body := body) (binds := binds) (by have := o.depth; omega) (o.K B _ _ hf) rfl (o.nolimit B) (codeRec_of (o.K B) hcd) hbody (BindsTo.of_eq hbind) hcell hloc (fun h₁ hns hk₁ => ?_) hco hgen hk)
  have hx : Ext H.objs.size Dn s.heap h₁ := .of_keeps hk₁
  have o1 := o.ext hx Dok.nil
  refine Wp.any (h _ _ rfl hns (Past.refl.to hx) ⟨o1.old, by have := o1.depth; show A.depth + 1 + k < _; omega, by have := o1.units; show A.units + 3 + 20 * k < _; omega, o1.handled, ?_⟩)
  obtain ⟨l, hl, _, fr⟩ := o1.frames
  refine ⟨_ :: l, by show A.frames.map _ = _; rw [hl]; rfl, List.cons_ne_nil _ _, fun env he => ?_⟩
  rcases List.mem_cons.mp he with rfl | he
  · obtain ⟨ob, es, ep, e1, e2, _⟩ := hns
    exact ⟨by show fd.scope.kind ≠ _; rw [hk]; nofun, _, rfl, o.size, ob, es, ep, e1, e2⟩
  · exact fr env he
/-- of a def with cells -/
theorem callFnC {f : Addr} {fd : FuncData} {body : List Stmt} {args : List Value} {binds : List (Str × Value)} {Q : Value → Shared → Prop} {oc : Value} {od : Option Addr} {sl : Array (Option Value)} (B : Base w H mg mb) (o : Ok H A s.heap (k + 1))
    (hf : (KF w.params).lookup f = some ⟨oc, od, .func fd, sl⟩) (hcd : codeIn (KF w.params) fd.code fd.qualname = true) (hbody : fd.body = .stmts body) (hbind : bindArgs fd ⟨args, []⟩ = pure binds) (hclo : fd.closure = [])
    (hkind : ∀ n, ∀ x ∈ binds, fd.scope.names.lookup x.1 = some .local ∨ (fd.scope.names.lookup x.1 = some .cell ∧ ((cellsFrom n fd.scope.names []).lookup x.1).isSome = true))
    (h : ∀ (L : Nat) st, L = s.heap.objs.size → st.heap.Ns L (bindL (callEnvC fd L f).kindOf binds fun _ => none) →
      (∀ n c, (callEnvC fd L f).cells.lookup n = some c → st.heap.IsCell c (bindC (callEnvC fd L f).kindOf binds (fun _ => none) n)) → Past H.objs.size Dn s st → Ok H (A.deeper (callEnvC fd L f)) st.heap k →
      Wp prog w (A.deeper (callEnvC fd L f)) (execs body (callEnvC fd L f)) (fun fl s' => Q (match fl with | .ret v => v | _ => .none) s') st)
    (hco : fd.scope.isCoroutine = false := by rfl) (hgen : fd.scope.isGenerator = false := by rfl) (hk : fd.scope.kind = .function := by rfl) : Wp prog w A (call (.ref f) args) Q s := by
  refine wpAny_call (codeAny_call_cells (fd := fd) (body := body) (binds := binds) (by have := o.depth; omega) (o.K B _ _ hf) rfl (o.nolimit B) (codeRec_of (o.K B) hcd) hbody hbind hclo (hkind _) (fun st x => ?_) hco hgen hk)
  have hns := x.toInCall.ns
  have hx : Ext H.objs.size Dn s.heap st.heap := .of_keeps x.toInCall.keep
  have hp : Past H.objs.size Dn s st := by
    obtain ⟨h', tk, e⟩ := x.toInCall.same
    subst e
    exact ⟨hx, rfl, rfl, rfl⟩
  have o1 := o.ext hx Dok.nil
  refine Wp.any (h _ _ rfl hns x.cell hp ⟨o1.old, by have := o1.depth; show A.depth + 1 + k < _; omega, by have := o1.units; show A.units + 3 + 20 * k < _; omega, o1.handled, ?_⟩)
  obtain ⟨l, hl, _, fr⟩ := o1.frames
  refine ⟨_ :: l, by show A.frames.map _ = _; rw [hl]; rfl, List.cons_ne_nil _ _, fun env he => ?_⟩
  rcases List.mem_cons.mp he with rfl | he
  · obtain ⟨ob, es, ep, e1, e2, _⟩ := hns
    exact ⟨by show fd.scope.kind ≠ _; rw [hk]; nofun, _, rfl, o.size, ob, es, ep, e1, e2⟩
  · exact fr env he
end
end Kk
namespace Kk
/-- the defs of the text -/
noncomputable abbrev FdAt (a : Addr) := { fd : FuncData // ∀ P, (KF P).lookup a = some ⟨.type "function", none, .func fd, #[]⟩ }
noncomputable def fdHeld : FuncData := (show FdAt 84 from ⟨_, fun _ => rfl⟩).1
noncomputable def fdSets : FuncData := (show FdAt 79 from ⟨_, fun _ => rfl⟩).1
noncomputable def fdDrawn : FuncData := (show FdAt 72 from ⟨_, fun _ => rfl⟩).1
noncomputable def fdDiff : FuncData := (show FdAt 65 from ⟨_, fun _ => rfl⟩).1
noncomputable def fdCompared : FuncData := (show FdAt 91 from ⟨_, fun _ => rfl⟩).1
noncomputable def fdFirst : FuncData := (show FdAt 96 from ⟨_, fun _ => rfl⟩).1
noncomputable def fdLaw : FuncData := (show FdAt 101 from ⟨_, fun _ => rfl⟩).1
noncomputable def fdKey : FuncData := (show FdAt 21 from ⟨_, fun _ => rfl⟩).1
noncomputable def fdFfInit : FuncData := (show FdAt 36 from ⟨_, fun _ => rfl⟩).1
noncomputable def fdFfIter : FuncData := (show FdAt 43 from ⟨_, fun _ => rfl⟩).1
noncomputable def fdFfNext : FuncData := (show FdAt 50 from ⟨_, fun _ => rfl⟩).1
end Kk
end

/-! ### W2 -/
section
open PySem PySem.W PySem.Calls PyProof.Rows
set_option maxRecDepth 100000
set_option maxHeartbeats 8000000
set_option linter.unusedVariables false
namespace Kk

/-- all that was stays as it was -/
structure Kept (t u : Shared) : Prop where
  keep : ∀ b o, t.heap.get? b = some o → u.heap.get? b = some o
  gens : u.gens = t.gens
  drawn : u.drawn = t.drawn
  os : u.os = t.os
/-- one object turned -/
structure Chg (a : Nat) (t u : Shared) : Prop where
  same : Heap.SameBut a t.heap u.heap
  gens : u.gens = t.gens
  drawn : u.drawn = t.drawn
  os : u.os = t.os
/-- one object may be turned, others made -/
structure But (a : Nat) (t u : Shared) : Prop where
  keep : Heap.ExtBut a t.heap u.heap
  gens : u.gens = t.gens
  drawn : u.drawn = t.drawn
  os : u.os = t.os
section
variable {n₀ : Nat} {D : Addr → Prop} {s t u v : Shared} {H : Heap} {A : Around} {k a : Nat}
theorem Kept.refl : Kept t t := ⟨fun _ _ e => e, rfl, rfl, rfl⟩
theorem Kept.trans (x : Kept t u) (y : Kept u v) : Kept t v := ⟨fun b o e => y.keep b o (x.keep b o e), y.gens.trans x.gens, y.drawn.trans x.drawn, y.os.trans x.os⟩
theorem Kept.ext (x : Kept t u) : Ext n₀ D t.heap u.heap := .of_keeps x.keep
theorem Kept.past (x : Kept t u) : Past n₀ D t u := ⟨x.ext, x.gens, x.drawn, x.os⟩
theorem Kept.tok (tk : Nat) : Kept t { t with toks := tk } := ⟨fun _ _ e => e, rfl, rfl, rfl⟩
theorem Kept.push (o : Obj) : Kept t { t with heap := t.heap.push o } := ⟨fun _ _ e => Heap.get?_push_of_some _ e, rfl, rfl, rfl⟩
theorem Kept.heap {h : Heap} {tk : Nat} (hk : ∀ b o, t.heap.get? b = some o → h.get? b = some o) : Kept t { t with heap := h, toks := tk } := ⟨hk, rfl, rfl, rfl⟩
theorem Past.kept (p : Past n₀ D s t) (x : Kept t u) : Past n₀ D s u := p.trans x.past
theorem Past.chg (p : Past n₀ D s t) (x : Chg a t u) (ha : s.heap.objs.size ≤ a) : Past n₀ D s u := ⟨p.ext.turn x.same (.inl ha), x.gens.trans p.gens, x.drawn.trans p.drawn, x.os.trans p.os⟩
theorem Past.butt (p : Past n₀ D s t) (x : But a t u) (ha : s.heap.objs.size ≤ a) : Past n₀ D s u := ⟨p.ext.but x.keep (.inl ha), x.gens.trans p.gens, x.drawn.trans p.drawn, x.os.trans p.os⟩
theorem Ok.butIter {l i : Nat} (o : Ok H A t.heap k) (x : But a t u) (ha : H.objs.size ≤ a) (hl : t.heap.IsListIter a l i) : Ok H A u.heap k :=
  o.but x.keep ha (let ⟨ob, e, _, hd⟩ := hl; ⟨ob, e, by rw [hd]; nofun⟩)
theorem But.ns {b : Nat} {m : Str → Option Value} (x : But a t u) (h : t.heap.Ns b m) (ne : b ≠ a) : u.heap.Ns b m := h.extBut x.keep ne
theorem But.cell {b : Nat} {w : Option Value} (x : But a t u) (h : t.heap.IsCell b w) (ne : b ≠ a) : u.heap.IsCell b w := let ⟨o, e, r⟩ := h; ⟨o, x.keep _ _ ne e, r⟩
theorem But.list {b : Nat} {items : Array Value} (x : But a t u) (h : t.heap.IsList b items) (ne : b ≠ a) : u.heap.IsList b items := let ⟨o, e, r⟩ := h; ⟨o, x.keep _ _ ne e, r⟩
theorem But.iter {b l i : Nat} (x : But a t u) (h : t.heap.IsListIter b l i) (ne : b ≠ a) : u.heap.IsListIter b l i := let ⟨o, e, r⟩ := h; ⟨o, x.keep _ _ ne e, r⟩
theorem Ok.kept (o : Ok H A t.heap k) (x : Kept t u) : Ok H A u.heap k := o.ext (D := Dn) x.ext Dok.nil
theorem Ok.past (o : Ok H A t.heap k) (x : Past H.objs.size Dn t u) : Ok H A u.heap k := o.ext x.ext Dok.nil
theorem Ok.chgNs {m : Str → Option Value} (o : Ok H A t.heap k) (x : Chg a t u) (ha : H.objs.size ≤ a) (hn : u.heap.Ns a m) : Ok H A u.heap k := o.turn x.same ha (.inl ⟨m, hn⟩)
theorem Ok.chgList {items : Array Value} (o : Ok H A t.heap k) (x : Chg a t u) (ha : H.objs.size ≤ a) (hl : t.heap.IsList a items) : Ok H A u.heap k :=
  o.turn x.same ha (.inr (let ⟨ob, e, _, _, hd⟩ := hl; ⟨ob, e, by rw [hd]; nofun⟩))
theorem Ok.chgCell {w : Option Value} (o : Ok H A t.heap k) (x : Chg a t u) (ha : H.objs.size ≤ a) (hl : t.heap.IsCell a w) : Ok H A u.heap k :=
  o.turn x.same ha (.inr (let ⟨ob, e, hd⟩ := hl; ⟨ob, e, by rw [hd]; nofun⟩))
theorem Ok.chgIter {l i : Nat} (o : Ok H A t.heap k) (x : Chg a t u) (ha : H.objs.size ≤ a) (hl : t.heap.IsListIter a l i) : Ok H A u.heap k :=
  o.turn x.same ha (.inr (let ⟨ob, e, _, hd⟩ := hl; ⟨ob, e, by rw [hd]; nofun⟩))
/-- facts over a turn -/
theorem Chg.ns {b : Nat} {m : Str → Option Value} (x : Chg a t u) (h : t.heap.Ns b m) (ne : b ≠ a) : u.heap.Ns b m := h.sameBut x.same ne
theorem Chg.cell {b : Nat} {w : Option Value} (x : Chg a t u) (h : t.heap.IsCell b w) (ne : b ≠ a) : u.heap.IsCell b w := h.sameBut x.same ne
theorem Chg.list {b : Nat} {items : Array Value} (x : Chg a t u) (h : t.heap.IsList b items) (ne : b ≠ a) : u.heap.IsList b items := let ⟨o, e, r⟩ := h; ⟨o, (x.same.2 b ne).trans e, r⟩
theorem Chg.iter {b l i : Nat} (x : Chg a t u) (h : t.heap.IsListIter b l i) (ne : b ≠ a) : u.heap.IsListIter b l i := let ⟨o, e, r⟩ := h; ⟨o, (x.same.2 b ne).trans e, r⟩
theorem Chg.size (x : Chg a t u) : u.heap.objs.size = t.heap.objs.size := x.same.1
theorem Kept.ns {b : Nat} {m : Str → Option Value} (x : Kept t u) (h : t.heap.Ns b m) : u.heap.Ns b m := h.keeps x.keep
theorem Kept.cell {b : Nat} {w : Option Value} (x : Kept t u) (h : t.heap.IsCell b w) : u.heap.IsCell b w := h.keeps x.keep
theorem Kept.list {b : Nat} {items : Array Value} (x : Kept t u) (h : t.heap.IsList b items) : u.heap.IsList b items := let ⟨o, e, r⟩ := h; ⟨o, x.keep _ _ e, r⟩
theorem Kept.iter {b l i : Nat} (x : Kept t u) (h : t.heap.IsListIter b l i) : u.heap.IsListIter b l i := let ⟨o, e, r⟩ := h; ⟨o, x.keep _ _ e, r⟩
theorem Past.ns {b : Nat} {m : Str → Option Value} (x : Past n₀ Dn t u) (h : t.heap.Ns b m) : u.heap.Ns b m := x.ext.ns h (fun f => f)
theorem Past.cell {b : Nat} {w : Option Value} (x : Past n₀ Dn t u) (h : t.heap.IsCell b w) : u.heap.IsCell b w := x.ext.cell h (fun f => f)
theorem Past.list {b : Nat} {items : Array Value} (x : Past n₀ Dn t u) (h : t.heap.IsList b items) : u.heap.IsList b items := x.ext.list h (fun f => f)
theorem Past.iter {b l i : Nat} (x : Past n₀ Dn t u) (h : t.heap.IsListIter b l i) : u.heap.IsListIter b l i := x.ext.listIter h (fun f => f)
end

section
variable {prog : Program} {w : World} {A : Around} {s : Shared} {env : Env}

/-- what a turn of a loop hands on -/
noncomputable def Turn (Q : Flow → Shared → Prop) (next : Shared → Prop) (f : Flow) (s : Shared) : Prop := match f with
  | .next => next s
  | .cont => next s
  | .brk => Q .next s
  | .ret v => Q (.ret v) s
/-- what a statement hands on -/
noncomputable def Seq' (rest : Shared → Prop) (Q : Flow → Shared → Prop) (f : Flow) (s : Shared) : Prop := match f with
  | .next => rest s
  | .cont => Q .cont s
  | .brk => Q .brk s
  | .ret v => Q (.ret v) s
noncomputable def OkR (Q : Flow → Shared → Prop) (r : Result) (s : Shared) : Prop := match r with
  | .ok f => Q f s
  | .error _ => False

theorem execs_cons {st : Stmt} {rest : List Stmt} {Q : Flow → Shared → Prop} (h : Wp prog w A (exec st env) (Seq' (fun s' => Wp prog w A (execs rest env) Q s') Q) s) :
    Wp prog w A (execs (st :: rest) env) Q s := wpAny_execs_cons (h.mono fun f s' hf => by cases f <;> exact hf)
theorem execs_nil {Q : Flow → Shared → Prop} (h : Q .next s) : Wp prog w A (execs [] env) Q s := wpAny_execs_nil h

theorem rStoreLoc {x : Str} {v : Value} {L : Nat} {m : Str → Option Value} {Q : Unit → Shared → Prop} (hn : s.heap.Ns L m)
    (h : ∀ u, Chg L s u → u.heap.Ns L (fun y => if y = x then some v else m y) → Q () u) (hL : env.locals = L := by rfl) (hk : env.scope.kind = .function := by rfl) (hl : env.kindOf x = some .local := by rfl) : Wp prog w A (storeName env x v) Q s := by
  subst hL
  exact wpAny_storeName_local hl hn (fun h' h1 h2 => h _ ⟨h2, rfl, rfl, rfl⟩ h1) (by rw [hk]; rfl)
theorem rStoreCell {x : Str} {v : Value} {c : Nat} {v₀ : Option Value} {Q : Unit → Shared → Prop} (hv : s.heap.IsCell c v₀) (h : ∀ u, Chg c s u → u.heap.IsCell c (some v) → Q () u)
    (hc : env.cells.lookup x = some c := by rfl) (hk : env.scope.kind = .function := by rfl) (hl : env.kindOf x = some .cell := by rfl) : Wp prog w A (storeName env x v) Q s :=
  wpAny_storeName_cell hk hl hc hv fun h' h1 h2 => h _ ⟨h2, rfl, rfl, rfl⟩ h1
theorem rIterList {l : Nat} {items : Array Value} {Q : Value → Shared → Prop} (hl : s.heap.IsList l items)
    (h : ∀ (it : Nat) u, it = s.heap.objs.size → Kept s u → u.heap.objs.size = it + 1 → u.heap.IsListIter it l 0 → Q (.ref it) u) : Wp prog w A (pyIter (.ref l)) Q s :=
  wpAny_pyIter_list hl (h _ _ rfl (Kept.push _) (Heap.size_push ..) ⟨_, Heap.get?_push_size _ rfl, rfl, rfl⟩)
theorem rNewList {vs : List Value} {Q : Value → Shared → Prop} (h : ∀ (a : Nat) u, a = s.heap.objs.size → Kept s u → u.heap.objs.size = a + 1 → u.heap.IsList a vs.toArray → Q (.ref a) u) (hsz : vs.length ≤ sizeLine := by size_fits) : Wp prog w A (newList vs) Q s :=
  wpAny_newList (h _ _ rfl (Kept.push _) (Heap.size_push ..) ⟨_, Heap.get?_push_size _ rfl, rfl, 0, rfl⟩) hsz
theorem rAppend {l : Nat} {items : Array Value} {x : Value} {Q : Value → Shared → Prop} (hl : s.heap.IsList l items) (h : ∀ u, Chg l s u → u.heap.IsList l (items.push x) → Q .none u) (hsz : items.size ≤ sizeLine) :
    Wp prog w A (call (.builtin "list.append") [.ref l, x]) Q s := wpAny_list_append hl (fun h' h1 h2 => h _ ⟨h2, rfl, rfl, rfl⟩ h1) hsz

/-- a for over a list that stays as it is -/
theorem forList {target : Expr} {it l : Nat} {items : Array Value} {body orelse : List Stmt} {Q : Flow → Shared → Prop} (I : Nat → Shared → Prop) (hh : A.handled = none)
    (hI : ∀ i t, I i t → t.heap.IsListIter it l i ∧ t.heap.IsList l items)
    (turn : ∀ i v t u, items[i]? = some v → I i t → Chg it t u → u.heap.IsListIter it l (i + 1) →
      Wp prog w A (assign target env v) (fun _ s₂ => Wp prog w A (execs body env) (Turn Q (I (i + 1))) s₂) u)
    (last : ∀ t u, I items.size t → But it t u → Wp prog w A (execs orelse env) Q u)
    (h0 : I 0 s) (ht : ∀ v, letOwnedTupleGo target (.ref it) v = pure () := by intro _; rfl) :
    codeAny (model prog w) A (.forLoop target (.ref it) body orelse env) (OkR Q) s := by
  refine codeAny_forLoop (fun n s => ∃ i, i + n = items.size ∧ I i s) (fun n s hn => ?_) items.size ⟨0, Nat.zero_add _, h0⟩ ht
  obtain ⟨i, hi, hs⟩ := hn
  obtain ⟨a1, a2⟩ := hI i s hs
  cases n with
  | zero =>
    have e : i = items.size := by omega
    subst e
    refine wpAny_pyNext_list_end hh a1 a2 (by simp) fun h' hx => ?_
    exact Wp.any (last s _ hs ⟨hx, rfl, rfl, rfl⟩)
  | succ n =>
    have hlt : i < items.size := by omega
    refine wpAny_pyNext_list_item a1 a2 (x := items[i]) (by simp [hlt]) fun h' x1 x2 => ?_
    refine Wp.anyMono (turn i _ s _ (by simp [hlt]) hs ⟨x2, rfl, rfl, rfl⟩ x1) fun _ s₂ h₂ => ?_
    refine Wp.anyMono h₂ fun f s₃ h₃ => ?_
    cases f with
    | next => exact ⟨n, Nat.lt_succ_self _, i + 1, by (clear hlt; omega), h₃⟩
    | cont => exact ⟨n, Nat.lt_succ_self _, i + 1, by (clear hlt; omega), h₃⟩
    | brk => exact h₃
    | ret v => exact h₃

theorem forStmt {target iter : Expr} {body : List Stmt} {pos : Pos} {Q : Flow → Shared → Prop}
    (h : Wp prog w A (eval iter env) (fun x s₁ => Wp prog w A (pyIter x) (fun it s₂ => codeAny (model prog w) A (.forLoop target it body [] env) (OkR Q) s₂) s₁) s)
    (hs : ∀ x, foldedSetIterable iter env x = pure x := by intro _; rfl) : Wp prog w A (exec (.For target iter body [] pos) env) Q s := by
  refine wpAny_For (h.mono fun x s₁ h₁ => h₁.mono fun it s₂ h₂ => codeAny_mono h₂ fun r s' hr => ?_) hs
  cases r with
  | ok f => exact hr
  | error e => exact hr.elim

/-- a comprehension [elt for x in iter if ifs] (one for, no cells of its own) -/
theorem compList {elt iter : Expr} {x : Str} {px : Pos} {ifs : List Expr} {scope : Scope} {pos : Pos} {cl : List (Str × Addr)} {Q : Value → Shared → Prop}
    (hclos : closureFor scope env = pure cl) (hcell : ∀ y ∈ scope.names, y.2 ≠ .cell) (hkind : scope.kind = .function)
    (hnames : ∀ y ∈ scope.names, y.2 = .local → scope.names.lookup y.1 = some .local)
    (h : Wp prog w A (eval iter env) (fun xv s₁ => Wp prog w A (pyIter xv) (fun it s₂ =>
      ∀ (a C : Nat) u, a = s₂.heap.objs.size → C = a + 1 → Kept s₂ u → u.heap.objs.size = C + 1 → u.heap.IsList a #[] → u.heap.Ns C (fun _ => none) →
      Wp prog w A (pyIter it) (fun it' u' => it' = it ∧ u' = u) u ∧
      codeAny (model prog w) A (.compLoop (.ListComp elt [⟨.Name x px, iter, ifs, 0⟩] scope pos) 0 it (.ref a) (compEnvC scope cl C env))
        (OkR fun _ u' => ∃ m, u'.heap.Ns C m ∧ ∀ z, Chg C u' z → Q (.ref a) z) u) s₁) s)
    (hs : ∀ y, foldedSetIterable iter env y = pure y := by intro _; rfl) : Wp prog w A (eval (.ListComp elt [⟨.Name x px, iter, ifs, 0⟩] scope pos) env) Q s := by
  show Wp prog w A (comprehension (.ListComp elt [⟨.Name x px, iter, ifs, 0⟩] scope pos) scope env (firstIterPos [⟨.Name x px, iter, ifs, 0⟩] pos) (newList []) (firstAsync [⟨.Name x px, iter, ifs, 0⟩]) (firstIter [⟨.Name x px, iter, ifs, 0⟩] env)) Q s
  refine wpAny_comprehension_free (g := ⟨.Name x px, iter, ifs, 0⟩) (gs := []) rfl hs hclos hkind hnames ?_
  refine wpAny_mono h (fun xv s₁ h₁ => wpAny_mono h₁ (fun it s₂ h₂ => ?_) fun _ _ z => z) fun _ _ z => z
  refine rNewList (fun a u ha hk hz hl => ?_)
  refine wpAny_newFunctionEnv hcell (by intro y hy; simp at hy) (fun h₃ hns hsb => ?_) hkind
  rw [hz] at hns hsb ⊢
  have k2 : Kept u { u with heap := h₃, toks := u.toks + ([] : List (Str × Value)).length } := Kept.heap fun b o e =>
    hsb.extBut b o (Nat.ne_of_lt (Nat.lt_of_lt_of_le (Heap.lt_size e) (Nat.le_of_eq hz))) (Heap.get?_push_of_some _ e)
  have hz3 : h₃.objs.size = a + 1 + 1 := hsb.1.trans (by rw [Heap.size_push, hz])
  obtain ⟨g1, g2⟩ := h₂ a (a + 1) _ ha rfl (hk.trans k2) hz3 (k2.list hl) hns
  have fin : codeAny (model prog w) A (.compLoop (.ListComp elt [⟨.Name x px, iter, ifs, 0⟩] scope pos) 0 it (.ref a) (compEnvC scope cl (a + 1) env))
      (compPost (model prog w) A (fun _ _ => False) none Q (.ref a) (a + 1)) { u with heap := h₃, toks := u.toks + ([] : List (Str × Value)).length } := codeAny_mono g2 fun r s' hr => by
    cases r with
    | ok f =>
      obtain ⟨m, hn, hq⟩ := hr
      exact ⟨m, hn, fun h' hs' => hq _ ⟨hs', rfl, rfl, rfl⟩⟩
    | error e => exact hr.elim
  refine codeAny_compStart_list fin ?_
  refine Wp.anyMono g1 fun it' u' e => ?_
  obtain ⟨rfl, rfl⟩ := e
  exact fin

theorem compLoopList {elt iter : Expr} {x : Str} {px : Pos} {ifs : List Expr} {scope : Scope} {pos : Pos} {it l acc : Nat} {items : Array Value} {Q : Flow → Shared → Prop} (I : Nat → Shared → Prop) (hh : A.handled = none)
    (hI : ∀ i t, I i t → t.heap.IsListIter it l i ∧ t.heap.IsList l items)
    (turn : ∀ i v t u, items[i]? = some v → I i t → Chg it t u → u.heap.IsListIter it l (i + 1) →
      Wp prog w A (storeName env x v) (fun _ s₂ =>
        Wp prog w A (forIn ifs true fun c r => if r = true then do let ok ← isTrue c env (eval c env); pure (ForInStep.yield ok) else pure (ForInStep.yield r)) (fun ok s₃ =>
          (ok = true → Wp prog w A (eval elt env) (fun y s₄ => Wp prog w A (call (.builtin "list.append") [.ref acc, y]) (fun _ s₅ => I (i + 1) s₅) s₄) s₃) ∧
          (ok = false → I (i + 1) s₃)) s₂) u)
    (last : ∀ t u, I items.size t → But it t u → Q .next u)
    (h0 : I 0 s) : codeAny (model prog w) A (.compLoop (.ListComp elt [⟨.Name x px, iter, ifs, 0⟩] scope pos) 0 (.ref it) (.ref acc) env) (OkR Q) s := by
  refine codeAny_compLoop_tests (fun n s => ∃ i, i + n = items.size ∧ I i s) (fun n s hn => ?_) items.size ⟨0, Nat.zero_add _, h0⟩
  obtain ⟨i, hi, hs⟩ := hn
  obtain ⟨a1, a2⟩ := hI i s hs
  cases n with
  | zero =>
    have e : i = items.size := by omega
    subst e
    exact wpAny_pyNext_list_end hh a1 a2 (by simp) fun h' hx => last s _ hs ⟨hx, rfl, rfl, rfl⟩
  | succ n =>
    have hlt : i < items.size := by omega
    refine wpAny_pyNext_list_item a1 a2 (x := items[i]) (by simp [hlt]) fun h' x1 x2 => ?_
    refine wpAny_assign_Name (Wp.anyMono (turn i _ s _ (by simp [hlt]) hs ⟨x2, rfl, rfl, rfl⟩ x1) fun _ s₂ h₂ => ?_)
    refine Wp.anyMono h₂ fun ok s₃ h₃ => ?_
    cases ok with
    | true =>
      rw [if_pos rfl]
      exact Wp.anyMono (h₃.1 rfl) fun y s₄ h₄ => Wp.anyMono h₄ fun _ s₅ h₅ => ⟨n, Nat.lt_succ_self _, i + 1, by (clear h₃ hlt; omega), h₅⟩
    | false =>
      rw [if_neg (by simp)]
      exact ⟨n, Nat.lt_succ_self _, i + 1, by (clear h₃ hlt; omega), h₃.2 rfl⟩
theorem compIterList {it l i : Nat} (h : s.heap.IsListIter it l i) : Wp prog w A (pyIter (.ref it)) (fun it' u' => it' = .ref it ∧ u' = s) s :=
  wpAny_pyIter_listiter h ⟨rfl, rfl⟩
theorem testsOne {c : Expr} {Q : Bool → Shared → Prop} (h : Wp prog w A (isTrue c env (eval c env)) Q s) :
    Wp prog w A (forIn [c] true fun c r => if r = true then do let ok ← isTrue c env (eval c env); pure (ForInStep.yield ok) else pure (ForInStep.yield r)) Q s := wpAny_tests_one h
theorem testsNil {Q : Bool → Shared → Prop} (h : Q true s) :
    Wp prog w A (forIn ([] : List Expr) true fun c r => if r = true then do let ok ← isTrue c env (eval c env); pure (ForInStep.yield ok) else pure (ForInStep.yield r)) Q s := wpAny_tests_nil h
end
end Kk
end

/-! ### W2b -/
section
open PySem PySem.W PySem.Calls PyProof.Rows
set_option maxRecDepth 100000
set_option maxHeartbeats 8000000
set_option linter.unusedVariables false
namespace Kk

/-- an iterator of n items: what an item is, what the heap says before item i, where it looks -/
structure ItK (prog : Program) (w : World) (A : Around) (it n : Nat) (fp : List Nat) (V : Nat → Value → Prop) (St : Nat → Heap → Prop) : Prop where
  next : ∀ i (t : Shared) (Q : Option Value → Shared → Prop), i < n → St i t.heap → (∀ v u, V i v → Chg it t u → St (i + 1) u.heap → Q (some v) u) → Wp prog w A (pyNext (.ref it)) Q t
  last : ∀ (t : Shared) (Q : Option Value → Shared → Prop), A.handled = none → St n t.heap → (∀ u, But it t u → Q none u) → Wp prog w A (pyNext (.ref it)) Q t
  self : ∀ i (t : Shared), St i t.heap → Wp prog w A (pyIter (.ref it)) (fun v u => v = .ref it ∧ u = t) t
  frame : ∀ i h h', St i h → (∀ b ∈ fp, ∀ o, h.get? b = some o → h'.get? b = some o) → St i h'
  nd : ∀ i h, St i h → ∀ b ∈ fp, ∃ o, h.get? b = some o ∧ ∀ es ep, o.data ≠ .dict es ep
  mem : it ∈ fp

section
variable {prog : Program} {w : World} {A : Around} {s : Shared} {env : Env}

theorem itList {it l : Nat} {items : Array Value} (hne : it ≠ l) : ItK prog w A it items.size [it, l] (fun i v => items[i]? = some v) (fun i h => h.IsListIter it l i ∧ h.IsList l items) where
  next i t Q hi st h := wpAny_pyNext_list_item st.1 st.2 (x := items[i]) (by simp [hi]) fun h' x1 x2 =>
    h _ { t with heap := h' } (by simp [hi]) ⟨x2, rfl, rfl, rfl⟩ ⟨x1, let ⟨o, e, r⟩ := st.2; ⟨o, (x2.2 l hne.symm).trans e, r⟩⟩
  last t Q hh st h := wpAny_pyNext_list_end hh st.1 st.2 (by simp) fun h' hx => h _ ⟨hx, rfl, rfl, rfl⟩
  self i t st := compIterList st.1
  frame i h h' st k := ⟨let ⟨o, e, r⟩ := st.1; ⟨o, k _ (by simp) _ e, r⟩, let ⟨o, e, r⟩ := st.2; ⟨o, k _ (by simp) _ e, r⟩⟩
  nd i h st b hb := by
    simp only [List.mem_cons, List.not_mem_nil, or_false] at hb
    rcases hb with rfl | rfl
    · obtain ⟨o, e, _, hd⟩ := st.1
      exact ⟨o, e, by rw [hd]; nofun⟩
    · obtain ⟨o, e, _, _, hd⟩ := st.2
      exact ⟨o, e, by rw [hd]; nofun⟩
  mem := by simp

section
variable {it n : Nat} {fp : List Nat} {V : Nat → Value → Prop} {St : Nat → Heap → Prop}
theorem ItK.chg {a i : Nat} {t u : Shared} (K : ItK prog w A it n fp V St) (st : St i t.heap) (c : Chg a t u) (ha : a ∉ fp) : St i u.heap :=
  K.frame i _ _ st fun b hb o e => (c.same.2 b fun q => ha (q ▸ hb)).trans e
theorem ItK.past {n₀ i : Nat} {D : Addr → Prop} {t u : Shared} (K : ItK prog w A it n fp V St) (st : St i t.heap) (p : Past n₀ D t u) (hD : ∀ b ∈ fp, ¬ D b) : St i u.heap :=
  K.frame i _ _ st fun b hb o e => by
    obtain ⟨o', e', hd⟩ := K.nd i _ st b hb
    rw [e] at e'; cases e'
    exact p.ext.get e (hD b hb) hd
theorem ItK.kept {i : Nat} {t u : Shared} (K : ItK prog w A it n fp V St) (st : St i t.heap) (p : Kept t u) : St i u.heap := K.frame i _ _ st fun b hb o e => p.keep b o e
theorem ItK.lt {i : Nat} {h : Heap} (K : ItK prog w A it n fp V St) (st : St i h) : ∀ b ∈ fp, b < h.objs.size := fun b hb => let ⟨_, e, _⟩ := K.nd i h st b hb; Heap.lt_size e

theorem forIt {target : Expr} {body orelse : List Stmt} {Q : Flow → Shared → Prop} (K : ItK prog w A it n fp V St) (I : Nat → Shared → Prop) (hh : A.handled = none)
    (hI : ∀ i t, I i t → St i t.heap)
    (turn : ∀ i v t u, i < n → V i v → I i t → Chg it t u → St (i + 1) u.heap →
      Wp prog w A (assign target env v) (fun _ s₂ => Wp prog w A (execs body env) (Turn Q (I (i + 1))) s₂) u)
    (last : ∀ t u, I n t → But it t u → Wp prog w A (execs orelse env) Q u)
    (h0 : I 0 s) (ht : ∀ v, letOwnedTupleGo target (.ref it) v = pure () := by intro _; rfl) :
    codeAny (model prog w) A (.forLoop target (.ref it) body orelse env) (OkR Q) s := by
  refine codeAny_forLoop (fun k s => ∃ i, i + k = n ∧ I i s) (fun k s hn => ?_) n ⟨0, Nat.zero_add _, h0⟩ ht
  obtain ⟨i, hi, hs⟩ := hn
  cases k with
  | zero =>
    have e : i = n := by omega
    subst e
    exact Wp.any (K.last s _ hh (hI i s hs) fun u hu => Wp.any (last s u hs hu))
  | succ k =>
    refine Wp.any (K.next i s _ (by omega) (hI i s hs) fun v u hv hc hst => ?_)
    refine Wp.anyMono (turn i v s u (by omega) hv hs hc hst) fun _ s₂ h₂ => ?_
    refine Wp.anyMono h₂ fun f s₃ h₃ => ?_
    cases f with
    | next => exact ⟨k, Nat.lt_succ_self _, i + 1, by omega, h₃⟩
    | cont => exact ⟨k, Nat.lt_succ_self _, i + 1, by omega, h₃⟩
    | brk => exact h₃
    | ret v => exact h₃

theorem compLoopIt {elt iter : Expr} {x : Str} {px : Pos} {ifs : List Expr} {scope : Scope} {pos : Pos} {acc : Nat} {Q : Flow → Shared → Prop} (K : ItK prog w A it n fp V St) (I : Nat → Shared → Prop) (hh : A.handled = none)
    (hI : ∀ i t, I i t → St i t.heap)
    (turn : ∀ i v t u, i < n → V i v → I i t → Chg it t u → St (i + 1) u.heap →
      Wp prog w A (storeName env x v) (fun _ s₂ =>
        Wp prog w A (forIn ifs true fun c r => if r = true then do let ok ← isTrue c env (eval c env); pure (ForInStep.yield ok) else pure (ForInStep.yield r)) (fun ok s₃ =>
          (ok = true → Wp prog w A (eval elt env) (fun y s₄ => Wp prog w A (call (.builtin "list.append") [.ref acc, y]) (fun _ s₅ => I (i + 1) s₅) s₄) s₃) ∧
          (ok = false → I (i + 1) s₃)) s₂) u)
    (last : ∀ t u, I n t → But it t u → Q .next u)
    (h0 : I 0 s) : codeAny (model prog w) A (.compLoop (.ListComp elt [⟨.Name x px, iter, ifs, 0⟩] scope pos) 0 (.ref it) (.ref acc) env) (OkR Q) s := by
  refine codeAny_compLoop_tests (fun k s => ∃ i, i + k = n ∧ I i s) (fun k s hn => ?_) n ⟨0, Nat.zero_add _, h0⟩
  obtain ⟨i, hi, hs⟩ := hn
  cases k with
  | zero =>
    have e : i = n := by omega
    subst e
    exact Wp.any (K.last s _ hh (hI i s hs) fun u hu => last s u hs hu)
  | succ k =>
    refine Wp.any (K.next i s _ (by omega) (hI i s hs) fun v u hv hc hst => ?_)
    refine wpAny_assign_Name (Wp.anyMono (turn i v s u (by omega) hv hs hc hst) fun _ s₂ h₂ => ?_)
    refine Wp.anyMono h₂ fun ok s₃ h₃ => ?_
    cases ok with
    | true =>
      rw [if_pos rfl]
      exact Wp.anyMono (h₃.1 rfl) fun y s₄ h₄ => Wp.anyMono h₄ fun _ s₅ h₅ => ⟨k, Nat.lt_succ_self _, i + 1, by (clear h₃; omega), h₅⟩
    | false =>
      rw [if_neg (by simp)]
      exact ⟨k, Nat.lt_succ_self _, i + 1, by (clear h₃; omega), h₃.2 rfl⟩
end

theorem filter_range_succ (p : Nat → Bool) (i : Nat) : (List.range (i + 1)).filter p = (List.range i).filter p ++ (if p i then [i] else []) := by
  rw [List.range_succ, List.filter_append]
  cases h : p i <;> simp [h]

inductive Rows (R : Nat → Value → Prop) : List Nat → List Value → Prop
  | nil : Rows R [] []
  | cons {a b as bs} : R a b → Rows R as bs → Rows R (a :: as) (b :: bs)
theorem Rows.imp {R R' : Nat → Value → Prop} (k : ∀ a b, R a b → R' a b) : ∀ {l l'}, Rows R l l' → Rows R' l l'
  | _, _, .nil => .nil
  | _, _, .cons a b => .cons (k _ _ a) (b.imp k)
theorem Rows.snoc {R : Nat → Value → Prop} {a : Nat} {b : Value} (h : R a b) : ∀ {l l'}, Rows R l l' → Rows R (l ++ [a]) (l' ++ [b])
  | _, _, .nil => .cons h .nil
  | _, _, .cons x y => .cons x (y.snoc h)
theorem Rows.length {R : Nat → Value → Prop} : ∀ {l l'}, Rows R l l' → l.length = l'.length
  | _, _, .nil => rfl
  | _, _, .cons _ r => by simp [r.length]

/-- a whole comprehension from behind the iterator on: tests p, elements F; J: what else holds -/
theorem compBody {n₀ n it : Nat} {fp : List Nat} {D : Addr → Prop} {elt iter : Expr} {x : Str} {px : Pos} {ifs : List Expr} {scope : Scope} {pos : Pos} {cl : List (Str × Addr)} {Q : Nat → Shared → Prop} {V : Nat → Value → Prop} {St : Nat → Heap → Prop} {s₁ s₂ : Shared}
    (K : ItK prog w A it n fp V St) (J : Heap → Prop) (p : Nat → Bool) (F : Nat → Value → Heap → Prop) (hh : A.handled = none) (hn : n ≤ 1000)
    (hD : ∀ b, n₀ ≤ b → ¬ D b) (hn₀ : n₀ ≤ s₁.heap.objs.size) (hb : s₁.heap.objs.size ≤ it) (hfp : ∀ b ∈ fp, n₀ ≤ b) (p12 : Past n₀ D s₁ s₂) (st : St 0 s₂.heap) (j0 : J s₂.heap)
    (hJk : ∀ t u, J t.heap → Kept t u → J u.heap)
    (hJ : ∀ a t u, J t.heap → But a t u → ((∃ m, t.heap.Ns a m) ∨ (a = it ∧ ∃ i, St i t.heap) ∨ (∃ xs, t.heap.IsList a xs)) → J u.heap)
    (hF : ∀ j y t u, F j y t.heap → Past n₀ D t u → F j y u.heap)
    (hFb : ∀ j y t u a, F j y t.heap → But a t u → s₁.heap.objs.size ≤ a → ((∃ m, t.heap.Ns a m) ∨ (a = it ∧ ∃ i, St i t.heap) ∨ (a = s₂.heap.objs.size ∧ ∃ xs, t.heap.IsList a xs)) → F j y u.heap)
    (hx : scope.names.lookup x = some .local) (hkind : scope.kind = .function)
    (test : ∀ (C : Nat) j v t m, j < n → V j v → Past n₀ D s₁ t → J t.heap → s₂.heap.objs.size < C → t.heap.Ns C m → m x = some v →
      Wp prog w A (forIn ifs true fun c r => if r = true then do let ok ← isTrue c (compEnvC scope cl C env) (eval c (compEnvC scope cl C env)); pure (ForInStep.yield ok) else pure (ForInStep.yield r))
        (fun ok t' => ok = p j ∧ Past n₀ D t t' ∧ J t'.heap) t)
    (elm : ∀ (C : Nat) j v t m, j < n → V j v → p j = true → Past n₀ D s₁ t → J t.heap → s₂.heap.objs.size < C → t.heap.Ns C m → m x = some v →
      Wp prog w A (eval elt (compEnvC scope cl C env)) (fun y t' => Past n₀ D t t' ∧ J t'.heap ∧ F j y t'.heap) t)
    (hQ : ∀ u ys, Past n₀ D s₁ u → J u.heap → u.heap.IsList s₂.heap.objs.size ys.toArray → Rows (fun j y => F j y u.heap) ((List.range n).filter p) ys → Q s₂.heap.objs.size u) :
    ∀ (a C : Nat) u, a = s₂.heap.objs.size → C = a + 1 → Kept s₂ u → u.heap.objs.size = C + 1 → u.heap.IsList a #[] → u.heap.Ns C (fun _ => none) →
      Wp prog w A (pyIter (.ref it)) (fun it' u' => it' = .ref it ∧ u' = u) u ∧
      codeAny (model prog w) A (.compLoop (.ListComp elt [⟨.Name x px, iter, ifs, 0⟩] scope pos) 0 (.ref it) (.ref a) (compEnvC scope cl C env))
        (OkR fun _ u' => ∃ m, u'.heap.Ns C m ∧ ∀ z, Chg C u' z → Q a z) u := by
  intro a C u ha hC k2 hz hl hns
  subst hC
  have kst := K.kept st k2
  refine ⟨K.self 0 u kst, ?_⟩
  have itlt := K.lt st it K.mem
  have fplt := K.lt st
  have nfp : ∀ b, s₂.heap.objs.size ≤ b → b ∉ fp := fun b hb hm => Nat.lt_irrefl _ (Nat.lt_of_lt_of_le (fplt b hm) hb)
  have afp : a ∉ fp := nfp a (Nat.le_of_eq ha.symm)
  have cfp : a + 1 ∉ fp := nfp (a + 1) (by (clear afp itlt hz hb hn₀ hn; omega))
  have hfpD : ∀ b ∈ fp, ¬ D b := fun b hb => hD b (hfp b hb)
  have lk : (relabel scope env).names.lookup x = some .local := lookup_relabel_local hx
  refine compLoopIt K (fun i t => Past n₀ D s₁ t ∧ J t.heap ∧ (∃ m, t.heap.Ns (a + 1) m) ∧ St i t.heap ∧ ∃ ys : List Value, t.heap.IsList a ys.toArray ∧ Rows (fun j y => F j y t.heap) ((List.range i).filter p) ys) hh
    (fun i t h => h.2.2.2.1) (fun i v t u hi hv ht c1 st1 => ?_) (fun t u ht c1 => ?_) ?_
  · obtain ⟨p1, j1, ⟨m, n1⟩, st0, ys, l1, r1⟩ := ht
    have p2 := p1.chg c1 (by (clear hi cfp afp itlt hz ha hn₀ hn; omega))
    have b1 : But it t u := ⟨fun b o ne e => (c1.same.2 b ne).trans e, c1.gens, c1.drawn, c1.os⟩
    have j2 := hJ it t u j1 b1 (.inr (.inl ⟨rfl, i, st0⟩))
    have l2 := c1.list l1 (fun q => afp (q ▸ K.mem))
    have r2 := r1.imp fun j y q => hFb j y t u it q b1 hb (.inr (.inl ⟨rfl, i, st0⟩))
    have n2 := c1.ns n1 (fun q => cfp (q ▸ K.mem))
    refine rStoreLoc (L := a + 1) n2 (fun u3 c3 n3 => ?_) rfl hkind lk
    have b3 : But (a + 1) u u3 := ⟨fun b o ne e => (c3.same.2 b ne).trans e, c3.gens, c3.drawn, c3.os⟩
    have p3 := p2.chg c3 (by (clear hi cfp afp hz hn₀ hn; omega))
    have j3 := hJ (a + 1) u u3 j2 b3 (.inl ⟨_, n2⟩)
    have l3 := c3.list l2 (Nat.ne_of_lt (Nat.lt_succ_self _))
    have r3 := r2.imp fun j y q => hFb j y u u3 (a + 1) q b3 (by (clear hi cfp afp hz hn₀ hn; omega)) (.inl ⟨_, n2⟩)
    have st3 := K.chg st1 c3 cfp
    refine (test (a + 1) i v u3 _ hi hv p3 j3 (by (clear hi cfp afp itlt hz hb hn₀ hn; omega)) n3 (by simp)).mono fun ok u4 h4 => ?_
    obtain ⟨hok, q4, j4⟩ := h4
    have aD : ¬ D a := hD a (by (clear hi cfp afp hz hn; omega))
    have cD : ¬ D (a + 1) := hD (a + 1) (by (clear aD hi cfp afp hz hn; omega))
    have p4 := p3.trans q4
    have n4 : u4.heap.Ns (a + 1) _ := q4.ext.ns n3 cD
    have l4 : u4.heap.IsList a ys.toArray := q4.ext.list l3 aD
    have st4 := K.past st3 q4 hfpD
    have r4 := r3.imp fun j y z => hF j y _ _ z q4
    refine ⟨fun ht => ?_, fun hf => ?_⟩
    · refine (elm (a + 1) i v u4 _ hi hv (hok.symm.trans ht) p4 j4 (by (clear cD aD hi cfp afp itlt hz hb hn₀ hn; omega)) n4 (by simp)).mono fun y u5 h5 => ?_
      obtain ⟨q5, j5, f5⟩ := h5
      have p5 := p4.trans q5
      have n5 : u5.heap.Ns (a + 1) _ := q5.ext.ns n4 cD
      have l5 : u5.heap.IsList a ys.toArray := q5.ext.list l4 aD
      have st5 := K.past st4 q5 hfpD
      have r5 := r4.imp fun j y z => hF j y _ _ z q5
      have hlen := r5.length
      have hle : ((List.range i).filter p).length ≤ i := Nat.le_trans (List.length_filter_le _ _) (by simp)
      refine rAppend l5 (fun u6 c6 l6 => ?_) (by rw [List.size_toArray, sizeLine_eq]; (clear cD aD cfp afp itlt hz ha hb hn₀; omega))
      have b6 : But a u5 u6 := ⟨fun b o ne e => (c6.same.2 b ne).trans e, c6.gens, c6.drawn, c6.os⟩
      refine ⟨p5.chg c6 (by (clear hle hlen cD aD hi cfp afp hz hn₀ hn; omega)), hJ a u5 u6 j5 b6 (.inr (.inr ⟨_, l5⟩)), ⟨_, c6.ns n5 (Nat.ne_of_gt (Nat.lt_succ_self _))⟩, K.chg st5 c6 afp, ys ++ [y], by simpa using l6, ?_⟩
      rw [filter_range_succ, hok.symm.trans ht]
      simp only [if_true]
      exact (r5.imp fun j z q => hFb j z u5 u6 a q b6 (by (clear hle hlen cD aD hi cfp afp hz hn₀ hn; omega)) (.inr (.inr ⟨ha, _, l5⟩))).snoc (hFb i y u5 u6 a f5 b6 (by (clear hle hlen cD aD hi cfp afp hz hn₀ hn; omega)) (.inr (.inr ⟨ha, _, l5⟩)))
    · refine ⟨p4, j4, ⟨_, n4⟩, st4, ys, l4, ?_⟩
      rw [filter_range_succ, hok.symm.trans hf]
      simp only [Bool.false_eq_true, if_false, List.append_nil]
      exact r4
  · obtain ⟨p1, j1, ⟨m, n1⟩, st0, ys, l1, r1⟩ := ht
    have n2 := c1.ns n1 (fun q => cfp (q ▸ K.mem))
    refine ⟨m, n2, fun z cz => ?_⟩
    have bz : But (a + 1) u z := ⟨fun b o ne e => (cz.same.2 b ne).trans e, cz.gens, cz.drawn, cz.os⟩
    subst ha
    refine hQ z ys ((p1.butt c1 (by (clear cfp afp hz itlt hn₀ hn; omega))).chg cz (by (clear cfp afp hz hn₀ hn; omega))) (hJ _ u z (hJ it t u j1 c1 (.inr (.inl ⟨rfl, n, st0⟩))) bz (.inl ⟨_, n2⟩)) (cz.list (c1.list l1 (fun q => afp (q ▸ K.mem))) (Nat.ne_of_lt (Nat.lt_succ_self _))) ?_
    exact (r1.imp fun j y q => hFb j y t u it q c1 hb (.inr (.inl ⟨rfl, n, st0⟩))).imp fun j y q => hFb j y u z _ q bz (by (clear cfp afp hz hn₀ hn; omega)) (.inl ⟨_, n2⟩)
  · exact ⟨p12.kept k2, hJk _ _ j0 k2, ⟨_, hns⟩, kst, [], hl, .nil⟩
end
end Kk
end

/-! ### W2c -/
section
open PySem PySem.W PySem.Calls PyProof.Rows
set_option maxRecDepth 100000
set_option maxHeartbeats 8000000
set_option linter.unusedVariables false
namespace Kk
section
variable {prog : Program} {w : World} {A : Around} {s : Shared} {env : Env}

theorem rTok {α : Type} {t : Sem α} {Q : α → Shared → Prop} (h : ∀ u, Kept s u → u.heap = s.heap → Wp prog w A t Q u) (tk : Nat) : Wp prog w A t Q { s with toks := tk } := h _ (Kept.tok tk) rfl

theorem rConstInt {i : Int} {k : Nat} {pos : Pos} {Q : Value → Shared → Prop} (h : ∀ t u, Kept s u → u.heap = s.heap → Q (.int i t) u) : Wp prog w A (eval (.Constant (.int i) k pos) env) Q s :=
  wpAny_Constant_int (h _ _ (Kept.tok _) rfl)
theorem rLen {l : Nat} {items : Array Value} {Q : Value → Shared → Prop} (hl : s.heap.IsList l items) (hz : items.size ≤ 100000) (h : ∀ t u, Kept s u → u.heap = s.heap → Q (.int items.size t) u) :
    Wp prog w A (call (.builtin "len") [.ref l]) Q s := call_len_list hl (by omega) (h _ _ (Kept.tok _) rfl)
theorem rItem {value slice : Expr} {l : Nat} {items : Array Value} {k : Int} {u : Tok} {v : Value} {Q : Value → Shared → Prop} (hl : s.heap.IsList l items) (h0 : 0 ≤ k) (h1 : k < 100000) (hv : items[k.toNat]? = some v) (h : Q v s)
    (hs : subscripted slice false (.ref l) (.int k u) = operate [.ref l, .int k u] (getItem (.ref l) (.int k u)) := by with_unfolding_all rfl) : Wp prog w A (subscriptTail value slice (.ref l) (.int k u)) Q s :=
  tail_any hl.typeIs slot_list_getitem.lookup (wpAny_getItem_list hl h0 (by (clear h0; omega)) hv h) hs
theorem rAddLists {l b : Nat} {xs ys : Array Value} {Q : Value → Shared → Prop} (hl : s.heap.IsList l xs) (hb : s.heap.IsList b ys)
    (h : ∀ (a : Nat) u, a = s.heap.objs.size → Kept s u → u.heap.objs.size = a + 1 → u.heap.IsList a (xs ++ ys) → Q (.ref a) u) (hsz : xs.size + ys.size ≤ 100000) : Wp prog w A (binaryOp .Add (.ref l) (.ref b)) Q s := by
  obtain ⟨⟨c1, d1, data1, s1⟩, e1, r1, n1, q1⟩ := id hl
  obtain ⟨⟨c2, d2, data2, s2⟩, e2, r2, n2, q2⟩ := id hb
  simp only at r1 q1 r2 q2
  subst r1 q1 r2 q2
  refine concat_meets hl.typeIs hb.typeIs noFill_list_add seq_list_add PySem.F.slot_list_add PySem.F.entry_list_add (PySem.F.args_list_add_2 _ _) (list_addW l b xs ys n1 n2 d1 d2 s1 s2 (by rw [sizeLine_eq]; omega)) ⟨e1, e2, ?_⟩
  exact h _ _ rfl (Kept.push _) (Heap.size_push ..) ⟨_, Heap.get?_push_size _ rfl, rfl, 0, rfl⟩
/-- xs[lower:upper] -/
theorem rSlice {value : Expr} {lower upper : Option Expr} {p pos : Pos} {Q : Value → Shared → Prop}
    (h : Wp prog w A (eval value env) (fun o s₁ => Wp prog w A (evalPart lower env) (fun vl s₂ => Wp prog w A (evalPart upper env) (fun vu s₃ =>
      ∃ (l : Nat) (items : Array Value) (lo hi : Option Int), o = .ref l ∧ s₃.heap.IsList l items ∧ items.size ≤ 100000 ∧ IsPart vl lo ∧ IsPart vu hi ∧
        ∀ (a : Nat) u, a = s₃.heap.objs.size + 1 → Kept s₃ u → u.heap.objs.size = a + 1 → u.heap.IsList a (slicePick items lo hi none) → Q (.ref a) u) s₂) s₁) s)
    (ht : ∀ o r, letTemporaryGo value o r = pure () := by intro _ _; rfl) : Wp prog w A (eval (.Subscript value (.Slice lower upper none p) pos) env) Q s := by
  refine wpAny_Subscript_list_slice (h.mono fun o s₁ h₁ => h₁.mono fun vl s₂ h₂ => h₂.mono fun vu s₃ h₃ => ?_) ht
  obtain ⟨l, items, lo, hi, e1, e2, e3, e4, e5, e6⟩ := h₃
  refine ⟨l, items, lo, hi, e1, e2, by rw [sizeLine_eq]; omega, e4, e5, e6 _ _ rfl ((Kept.push _).trans (Kept.push _)) ?_ ?_⟩
  · rw [Heap.size_push, Heap.size_push]
  · have := Heap.size_push s₃.heap { cls := .type "slice", data := .fields #[vl, vu, .none] }
    exact ⟨_, by rw [← this]; exact Heap.get?_push_size _ rfl, rfl, 0, rfl⟩

/-- range -/
noncomputable def IsRange' (h : Heap) (r : Nat) (a b : Int) : Prop := ∃ t u v, IsRange h r a b 1 t u v
theorem rRange1 {n : Int} {t : Tok} {Q : Value → Shared → Prop} (h : ∀ (r : Nat) u, r = s.heap.objs.size → Kept s u → u.heap.objs.size = r + 1 → IsRange' u.heap r 0 n → Q (.ref r) u) : Wp prog w A (call (.type "range") [.int n t]) Q s :=
  call_range_1 (h _ _ rfl ((Kept.push _).trans (Kept.tok _)) (Heap.size_push ..) ⟨_, _, _, Heap.get?_push_size _ rfl⟩)
theorem rRange2 {a b : Int} {t t' : Tok} {Q : Value → Shared → Prop} (h : ∀ (r : Nat) u, r = s.heap.objs.size → Kept s u → u.heap.objs.size = r + 1 → IsRange' u.heap r a b → Q (.ref r) u) : Wp prog w A (call (.type "range") [.int a t, .int b t']) Q s :=
  call_range_2 (h _ _ rfl ((Kept.push _).trans (Kept.tok _)) (Heap.size_push ..) ⟨_, _, _, Heap.get?_push_size _ rfl⟩)
theorem range_size {a b : Int} (h : a ≤ b) : Builtin.Range.rangeSize a b 1 = b - a := by
  unfold Builtin.Range.rangeSize
  simp only [show (1 : Int) > 0 by decide, if_true, Int.ediv_one]
  split <;> omega
theorem rIterRange {r : Nat} {a b : Int} {Q : Value → Shared → Prop} (hr : IsRange' s.heap r a b) (hab : a ≤ b) (ha : 0 ≤ a) (hb : b < 100000)
    (h : ∀ (it : Nat) u, it = s.heap.objs.size → Kept s u → u.heap.objs.size = it + 1 → IsRangeIter u.heap it a (b - a) 1 → Q (.ref it) u) : Wp prog w A (pyIter (.ref r)) Q s := by
  obtain ⟨t, u, v, hr⟩ := hr
  have hz := range_size hab
  refine wpAny_pyIter_range hr ?_ (h _ _ rfl (Kept.push _) (Heap.size_push ..) ?_)
  · have fl : ∀ x : Int, 0 ≤ x → x ≤ 100000 → Builtin.Range.rangeFitsLong x = true := fun x h1 h2 => by
      unfold Builtin.Range.rangeFitsLong
      simp only [Bool.and_eq_true, decide_eq_true_eq]
      constructor <;> (clear hz hb ha hab; omega)
    unfold Builtin.Range.small
    rw [hz]
    simp only [Bool.and_eq_true, show (1 : Int) > 0 by decide, if_true]
    refine ⟨⟨⟨⟨fl _ ha (by (clear hz ha; omega)), fl _ (by (clear hz hb; omega)) (by (clear hz ha hab; omega))⟩, fl _ (by (clear hz hb ha hab; omega)) (by (clear hz hb ha hab; omega))⟩, fl _ (by (clear hz hb ha; omega)) (by (clear hz hab; omega))⟩, ?_⟩
    rw [fl (b + (1 - 1)) (by (clear hz hb; omega)) (by (clear hz ha hab; omega))]
    simp
  · have e := Heap.get?_push_size s.heap (o := { cls := .type "range_iterator", data := .fields #[rawInt a, rawInt (Builtin.Range.rangeSize a b 1), rawInt 1] }) rfl
    rw [hz] at e
    rw [hz]
    exact e
theorem itRange {it n : Nat} {a : Int} : ItK prog w A it n [it] (fun i v => ∃ t, v = .int (a + i) t) (fun i h => IsRangeIter h it (a + i) ((n : Int) - i) 1) where
  next i t Q hi st h := wpAny_pyNext_range_item st (by omega) fun h' x1 x2 => by
    refine h _ _ ⟨_, rfl⟩ ⟨x2, rfl, rfl, rfl⟩ ?_
    have e1 : a + ((i + 1 : Nat) : Int) = a + i + 1 := by (clear hi; omega)
    have e2 : (n : Int) - ((i + 1 : Nat) : Int) = n - i - 1 := by (clear e1 hi; omega)
    rw [e1, e2]
    exact x1
  last t Q hh st h := wpAny_pyNext_range_end hh st (by omega) fun h' hx => h _ ⟨hx, rfl, rfl, rfl⟩
  self i t st := wpAny_pyIter_rangeiter st ⟨rfl, rfl⟩
  frame i h h' st k := k it (by simp) _ st
  nd i h st b hb := by
    simp only [List.mem_cons, List.not_mem_nil, or_false] at hb
    subst hb
    exact ⟨_, st, by nofun⟩
  mem := by simp
end
end Kk
end

/-! ### W2d -/
section
open PySem PySem.W PySem.Calls PyProof.Rows
set_option maxRecDepth 100000
set_option maxHeartbeats 8000000
set_option linter.unusedVariables false
namespace Kk

/-- a list without a dict of its own -/
noncomputable def PL (h : Heap) (a : Nat) (items : Array Value) : Prop := PlainL h a items
section
variable {n₀ a b : Nat} {s t u : Shared} {items : Array Value}
theorem PL.list {h : Heap} (x : PL h a items) : h.IsList a items := x.isList
theorem Past.pl (p : Past n₀ Dn t u) (x : PL t.heap b items) : PL u.heap b items := let ⟨o, n, e, c, d, q⟩ := x; ⟨o, n, p.ext.get e (fun f => f) (by rw [q]; nofun), c, d, q⟩
theorem Chg.pl (c : Chg a t u) (x : PL t.heap b items) (ne : b ≠ a) : PL u.heap b items := let ⟨o, n, e, r⟩ := x; ⟨o, n, (c.same.2 b ne).trans e, r⟩
theorem But.pl (c : But a t u) (x : PL t.heap b items) (ne : b ≠ a) : PL u.heap b items := let ⟨o, n, e, r⟩ := x; ⟨o, n, c.keep _ _ ne e, r⟩
theorem Kept.pl (c : Kept t u) (x : PL t.heap b items) : PL u.heap b items := let ⟨o, n, e, r⟩ := x; ⟨o, n, c.keep _ _ e, r⟩
theorem PL.lt {h : Heap} (x : PL h a items) : a < h.objs.size := x.isList.elim fun _ e => Heap.lt_size e.1
end

section
variable {prog : Program} {w : World} {H : Heap} {mg mb : Str → Option Value} {A : Around} {s : Shared} {k : Nat} {env : Env}

theorem rNewPL {vs : List Value} {Q : Value → Shared → Prop} (h : ∀ (a : Nat) u, a = s.heap.objs.size → Kept s u → u.heap.objs.size = a + 1 → PL u.heap a vs.toArray → Q (.ref a) u) (hsz : vs.length ≤ sizeLine := by size_fits) : Wp prog w A (newList vs) Q s :=
  wpAny_newList (h _ _ rfl (Kept.push _) (Heap.size_push ..) ⟨_, 0, Heap.get?_push_size _ rfl, rfl, rfl, rfl⟩) hsz
theorem rAppendPL {l : Nat} {items : Array Value} {x : Value} {Q : Value → Shared → Prop} (hl : PL s.heap l items) (h : ∀ u, Chg l s u → PL u.heap l (items.push x) → Q .none u) (hsz : items.size ≤ 100000) :
    Wp prog w A (call (.builtin "list.append") [.ref l, x]) Q s := by
  obtain ⟨o, n, ho, hc, hdd, hd⟩ := id hl
  obtain ⟨n', hd'⟩ := Obj.data_mapSeq hd (·.push x)
  refine wpAny_call_entry slot_list_append hl.isList.typeIs entry_list_append ?_ (args_list_append _ _)
  show wpAny _ _ (updateSeq l (·.push x) >>= fun _ => ret .none) _ _ s
  have z1 : items.size ≤ sizeLine := by rw [sizeLine_eq]; omega
  have z2 : (items.push x).size ≤ sizeLine + 1 := by rw [Array.size_push]; (clear hsz; omega)
  have e : PL (s.heap.update l (Obj.mapSeq (·.push x))) l (items.push x) := by
    refine ⟨_, n', Heap.get?_update_self _ ho (Obj.isFreed_of_seq hd'), (Obj.cls_mapSeq ..).trans hc, ?_, hd'⟩
    obtain ⟨c, d, dt, sl⟩ := o
    cases dt <;> first | exact hdd | rfl
  exact wpAny_bind (wpAny_updateSeq ho hd (wpAny_pure ⟨.none, rfl, h _ ⟨Heap.SameBut.update .., rfl, rfl, rfl⟩ e⟩) z1 z2)

/-- spliced args, one by one -/
theorem sNil {Q : List Value → Shared → Prop} (h : Q [] s) : Wp prog w A (spliced []) Q s := spliced_nil h
theorem sCons {x : Sem Value} {rest : List (Bool × Sem Value)} {Q : List Value → Shared → Prop} (h : Wp prog w A x (fun v s₁ => Wp prog w A (spliced rest) (fun vs s₂ => Q (v :: vs) s₂) s₁) s) : Wp prog w A (spliced ((false, x) :: rest)) Q s := spliced_cons h

/-- f(args) of a def of the text's -/
theorem cFn {x : Str} {fp pos : Pos} {args : List Expr} {a : Addr} {fd : FuncData} {t : Bool × Sem Value} {ts : List (Bool × Sem Value)} {Q : Value → Shared → Prop} {oc : Value} {od : Option Addr} {sl : Array (Option Value)} (B : Base w H mg mb) (o : Ok H A s.heap k)
    (e : nsIn (KF w.params) mainGlobals x = some (some (.ref a))) (hf : (KF w.params).lookup a = some ⟨oc, od, .func fd, sl⟩)
    (ht : backTo pos (starEach args env) = t :: ts) (h0 : t.1 = false)
    (h : Wp prog w A (spliced (t :: ts)) (fun vs u => (∃ k', Ok H A u.heap k') ∧ Wp prog w A (call (.ref a) vs) Q u) s)
    (hg : env.globals = mainGlobals := by rfl) (hk : env.scope.kind = .function := by rfl) (hx : env.kindOf x = some .globalImplicit := by rfl) (hd : (x == ("__debug__" : Str)) = false := by decide) :
    Wp prog w A (eval (.Call (.Name x fp) args [] pos) env) Q s := by
  refine wpAny_Call_NameR (eGlob B o e ?_ hg hk hx hd)
  rw [ht]
  obtain ⟨b, tr⟩ := t
  simp only at h0
  subst h0
  exact callWith_function (evalArgs_plain (h.mono fun vs u hu => ⟨⟨hu.1.choose_spec.K B _ _ hf, rfl⟩, hu.2⟩))
/-- f(args) of a built-in -/
theorem cBuilt {x : Str} {fp pos : Pos} {args : List Expr} {id : String} {t : Bool × Sem Value} {ts : List (Bool × Sem Value)} {Q : Value → Shared → Prop} (B : Base w H mg mb) (o : Ok H A s.heap k)
    (e : nsIn (KF w.params) mainGlobals x = some none) (hv : bootBuiltins x = some (.builtin id))
    (ht : backTo pos (starEach args env) = t :: ts) (h0 : (t :: ts).any (·.1) = false)
    (h : Wp prog w A (spliced (t :: ts)) (fun vs u => Wp prog w A (call (.builtin id) vs) Q u) s)
    (hn : x ≠ "__name__" := by decide) (hg : env.globals = mainGlobals := by rfl) (hb : env.builtins = builtinsNs := by rfl) (hk : env.scope.kind = .function := by rfl) (hx : env.kindOf x = some .globalImplicit := by rfl) (hd : (x == ("__debug__" : Str)) = false := by decide) :
    Wp prog w A (eval (.Call (.Name x fp) args [] pos) env) Q s := by
  refine wpAny_Call_NameR (eBuilt B o e hv ?_ hn hg hb hk hx hd)
  rw [ht]
  obtain ⟨b, tr⟩ := t
  have hb : b = false := by simp only [List.any_cons, Bool.or_eq_false_iff] at h0; exact h0.1
  subst hb
  exact callWith_builtin h0 (evalArgs_plain h)
theorem cType {x : Str} {fp pos : Pos} {args : List Expr} {T : String} {t : Bool × Sem Value} {ts : List (Bool × Sem Value)} {Q : Value → Shared → Prop} (B : Base w H mg mb) (o : Ok H A s.heap k)
    (e : nsIn (KF w.params) mainGlobals x = some none) (hv : bootBuiltins x = some (.type T))
    (ht : backTo pos (starEach args env) = t :: ts) (h0 : (t :: ts).any (·.1) = false)
    (h : Wp prog w A (spliced (t :: ts)) (fun vs u => Wp prog w A (call (.type T) vs) Q u) s)
    (hn : x ≠ "__name__" := by decide) (hg : env.globals = mainGlobals := by rfl) (hb : env.builtins = builtinsNs := by rfl) (hk : env.scope.kind = .function := by rfl) (hx : env.kindOf x = some .globalImplicit := by rfl) (hd : (x == ("__debug__" : Str)) = false := by decide) :
    Wp prog w A (eval (.Call (.Name x fp) args [] pos) env) Q s := by
  refine wpAny_Call_NameR (eBuilt B o e hv ?_ hn hg hb hk hx hd)
  rw [ht]
  obtain ⟨b, tr⟩ := t
  have hb : b = false := by simp only [List.any_cons, Bool.or_eq_false_iff] at h0; exact h0.1
  subst hb
  exact PyProof.Rows.callWith_type h0 (evalArgs_plain h)
/-- xs.m(arg) of a list's -/
theorem cMethod {ox name : Str} {op apos pos : Pos} {arg : Expr} {id : String} {tr : Sem Value} {Q : Value → Shared → Prop} (slot : Slot "list" name id) (hty : typeOf (.builtin id) = pure (.type "method_descriptor"))
    (hbase : attributeBase (.Name ox op) name env (eval (.Name ox op) env) = eval (.Name ox op) env) (hline : (apos.endLine == pos.line) = true)
    (ht : backTo pos (starEach [arg] env) = [(false, tr)])
    (h : Wp prog w A (eval (.Name ox op) env) (fun ov s₁ => ∃ (l : Nat) (items : Array Value), ov = .ref l ∧ PL s₁.heap l items ∧ Wp prog w A tr (fun v s₂ => Wp prog w A (call (.builtin id) [.ref l, v]) Q s₂) s₁) s) :
    Wp prog w A (eval (.Call (.Attribute (.Name ox op) name apos) [arg] [] pos) env) Q s := by
  refine wpAny_Call_method hbase (by rw [ht]; rfl) hline PySem.F.plainAttrs_list slot hty (h.mono fun ov s₁ h₁ => ?_)
  obtain ⟨l, items, rfl, hl, hw⟩ := h₁
  refine ⟨hl.isList.typeIs, fun a e => ?_, ?_⟩
  · cases e
    obtain ⟨ob, n, e1, e2, e3, e4⟩ := hl
    exact ⟨ob, e1, e3⟩
  · rw [ht]
    exact callWith_builtin rfl (evalArgs_plain (sCons (hw.mono fun v s₂ h₂ => sNil h₂)))
end
end Kk
end

/-! ### W3 -/
section
open PySem PySem.W PySem.Calls PyProof.Rows
set_option maxRecDepth 100000
set_option maxHeartbeats 8000000
namespace Kk

noncomputable def IL (h : Heap) (v : Value) (ns : List Int) : Prop := ∃ (a : Nat) (vs : List Value), v = .ref a ∧ h.IsList a vs.toArray ∧ IntsAre vs ns
inductive All2 {α β : Type} (R : α → β → Prop) : List α → List β → Prop
  | nil : All2 R [] []
  | cons {a b as bs} : R a b → All2 R as bs → All2 R (a :: as) (b :: bs)
noncomputable def LL (h : Heap) (v : Value) (nss : List (List Int)) : Prop := ∃ (a : Nat) (vs : List Value), v = .ref a ∧ h.IsList a vs.toArray ∧ All2 (IL h) vs nss

section
variable {n₀ : Nat} {h h' : Heap} {v : Value}
theorem IL.ext {ns : List Int} (x : Ext n₀ Dn h h') (i : IL h v ns) : IL h' v ns :=
  let ⟨a, vs, e, l, i⟩ := i; ⟨a, vs, e, x.list l (fun f => f), i⟩
theorem All2.imp {α β : Type} {R R' : α → β → Prop} (k : ∀ a b, R a b → R' a b) : ∀ {l : List α} {l' : List β}, All2 R l l' → All2 R' l l'
  | _, _, .nil => .nil
  | _, _, .cons a b => .cons (k _ _ a) (b.imp k)
theorem LL.ext {nss : List (List Int)} (x : Ext n₀ Dn h h') (i : LL h v nss) : LL h' v nss :=
  let ⟨a, vs, e, l, i⟩ := i; ⟨a, vs, e, x.list l (fun f => f), i.imp fun _ _ q => q.ext x⟩
theorem All2.get {α β : Type} {R : α → β → Prop} : ∀ {l : List α} {l' : List β}, All2 R l l' → ∀ {i : Nat} {a : α}, l[i]? = some a → ∃ b, l'[i]? = some b ∧ R a b
  | _, _, .cons r _, 0, _, e => by cases e; exact ⟨_, rfl, r⟩
  | _, _, .cons _ r, i + 1, _, e => r.get (i := i) e
  | _, _, .nil, i, _, e => by simp at e
theorem All2.length {α β : Type} {R : α → β → Prop} : ∀ {l : List α} {l' : List β}, All2 R l l' → l.length = l'.length
  | _, _, .nil => rfl
  | _, _, .cons _ r => by simp [r.length]
theorem ints_get {vs : List Value} {ns : List Int} (h : IntsAre vs ns) : ∀ {i : Nat} {v : Value}, vs[i]? = some v → ∃ n t, v = .int n t ∧ ns[i]? = some n := by
  induction h with
  | nil => intro i v e; simp at e
  | cons n t _ ih =>
    intro i v e
    cases i with
    | zero => cases e; exact ⟨n, t, rfl, rfl⟩
    | succ i => exact ih e
end

noncomputable def heldF (picked : List (List Int)) (one : List Int) : Bool := picked.any fun big => one.all fun x => big.any (· == x)
noncomputable def leftF (big one : List Int) : List Int := one.filter fun x => !(big.any (· == x))
theorem take_succ' {α : Type} {l : List α} {i : Nat} {a : α} (e : l[i]? = some a) : l.take (i + 1) = l.take i ++ [a] := by
  rw [List.take_add_one, e]; rfl

theorem rows_eq {f : Nat → Option Value} : ∀ {l : List Nat} {ys : List Value}, Rows (fun j y => f j = some y) l ys → ys = l.filterMap f
  | _, _, .nil => rfl
  | _, _, .cons e r => by rw [List.filterMap_cons, e, ← rows_eq r]
section
variable {prog : Program} {w : World} {H : Heap} {mg mb : Str → Option Value} {A : Around} {s : Shared} {k : Nat}

theorem rows_ints {vs : List Value} {ns : List Int} (h : IntsAre vs ns) (q : Int → Bool) : ∀ (i : Nat), i ≤ ns.length → ∀ {ys : List Value},
    Rows (fun j y => vs[j]? = some y) ((List.range i).filter fun j => q (ns.getD j 0)) ys → IntsAre ys ((ns.take i).filter q) := by
  intro i hi ys r
  rw [rows_eq r]
  clear r
  induction i with
  | zero => exact .nil
  | succ i ih =>
    have hlt : i < ns.length := hi
    have hlv : i < vs.length := by rw [h.length]; exact hlt
    obtain ⟨n, t, e1, e2⟩ := ints_get h (i := i) (v := vs[i]) (by simp [hlv])
    have e3 : vs[i]? = some (.int n t) := by rw [← e1]; simp [hlv]
    have e4 : ns.getD i 0 = n := by rw [List.getD_eq_getElem?_getD, e2]; rfl
    rw [filter_range_succ, List.filterMap_append, take_succ' e2, List.filter_append, e4]
    refine (ih (Nat.le_of_lt hi)).append ?_
    cases hq : q n with
    | true => simp only [if_true, List.filterMap_cons, e3, List.filterMap_nil, List.filter_cons, hq, List.filter_nil]; exact .cons _ _ .nil
    | false => simp only [Bool.false_eq_true, if_false, List.filterMap_nil, List.filter_cons, hq, List.filter_nil]; exact .nil

theorem held_spec {one picked : Value} {ns : List Int} {nss : List (List Int)} {Q : Value → Shared → Prop} (B : Base w H mg mb) (o : Ok H A s.heap 8)
    (h1 : IL s.heap one ns) (h2 : LL s.heap picked nss) (hsz : ns.length ≤ 1000) (ho : ∀ a, one = .ref a → H.objs.size ≤ a)
    (hQ : ∀ u, Past H.objs.size Dn s u → Q (.bool (heldF nss ns)) u) : Wp prog w A (call (.ref 84) [one, picked]) Q s := by
  refine callFnC B o (f := 84) (fd := fdHeld) (binds := [("one", one), ("picked", picked)]) rfl rfl rfl rfl rfl ?_ fun L st hL hns hcl hp ok => ?_
  · intro n x hx
    simp only [List.mem_cons, List.not_mem_nil, or_false] at hx
    rcases hx with rfl | rfl <;> exact .inl rfl
  have hc : st.heap.IsCell (L + 1) none := hcl ("big" : Str) (L + 1) rfl
  clear hcl
  obtain ⟨pa, pvs, rfl, hpl, hpa⟩ := h2
  obtain ⟨oa, ovs, rfl, hol, hoi⟩ := h1
  obtain ⟨m, hns, m1, m2⟩ : ∃ m, st.heap.Ns L m ∧ m "one" = some (.ref oa) ∧ m "picked" = some (.ref pa) := ⟨_, hns, rfl, rfl⟩
  generalize A.deeper (callEnvC fdHeld L 84) = A1 at ok ⊢
  have hz := o.size
  have ool := hoi.length
  have hoa := ho oa rfl
  have oal := isList_lt hol
  refine execs_cons (forStmt (eLocal hns m2 ?_))
  refine rIterList (hp.list hpl) fun it u hit ku uz ui => ?_
  have cl := isCell_lt hc
  have Ll := ns_lt hns
  refine forList (I := fun i t => Past H.objs.size Dn s t ∧ t.heap.Ns L m ∧ (∃ v, t.heap.IsCell (L + 1) v) ∧ t.heap.IsListIter it pa i ∧ Ok H A1 t.heap 7 ∧ (nss.take i).any (fun big => ns.all fun x => big.any (· == x)) = false)
    ok.handled (fun i t ht => ⟨ht.2.2.2.1, ht.1.list hpl⟩) (fun i v t u hv ht c1 it1 => ?_) (fun t u ht c1 => ?_) ?_
  · obtain ⟨p0, n0, ⟨cv, c0⟩, it0, ok0, q0⟩ := ht
    obtain ⟨big, hb, ba, bvs, rfl, hbl, hbi⟩ := hpa.get (by simpa using hv)
    have p1 := p0.chg c1 (by (clear Ll uz oal hoa ool hz hsz; omega))
    have n1 := c1.ns n0 (Nat.ne_of_lt (by (clear Ll uz oal hoa ool hz hL hsz; omega)))
    have d1 := c1.cell c0 (Nat.ne_of_lt (by (clear Ll uz oal hoa ool hz hL hsz; omega)))
    have ok1 := ok0.chgIter c1 (by (clear Ll uz oal hoa ool hsz; omega)) it0
    refine wpAny_assign_Name (rStoreCell d1 fun u2 c2 d2 => ?_)
    have p2 := p1.chg c2 (by (clear Ll cl uz hit oal hoa ool hz hsz; omega))
    have n2 := c2.ns n1 (Nat.ne_of_lt (by (clear Ll cl uz hit oal hoa ool hz hL hsz; omega)))
    have it2 := c2.iter it1 (Nat.ne_of_gt (by (clear Ll uz oal hoa ool hz hL hsz; omega)))
    have ok2 := ok1.chgCell c2 (by (clear Ll cl uz hit oal hoa ool hsz; omega)) d1
    have oal2 := isList_lt (p2.list hol)
    refine execs_cons (wpAny_If (wpAny_isTrue_Compare1 ?_))
    refine compList (cl := [("big", L + 1)]) rfl (by decide) rfl (by decide) (eLocal n2 m1 ?_)
    refine rIterList (p2.list hol) fun jt u3 hjt k3 z3 i3 => ?_
    refine compBody (itList (Nat.ne_of_gt (by (clear z3 Ll cl uz hit oal hoa ool hz hL hsz; omega)))) (fun _ => True) (fun j => !(big.any (· == ns.getD j 0))) (fun j y _ => ovs[j]? = some y) (n₀ := H.objs.size) (D := Dn) (s₁ := u2) ok2.handled (by rw [List.size_toArray]; (clear z3 hjt oal2 Ll cl uz hit oal hoa hz hL; omega))
      (fun _ _ f => f) ok2.size (by (clear z3 oal2 Ll cl uz hit oal hoa ool hz hL hsz; omega)) ?_ k3.past ⟨i3, k3.list (p2.list hol)⟩ trivial (fun _ _ _ _ => trivial) (fun _ _ _ _ _ _ => trivial) (fun _ _ _ _ h _ => h) (fun _ _ _ _ _ h _ _ _ => h) ?_ ?_
      (fun C j v t mm hj hv p _ hC nC hmx => ?_) (fun C j v t mm hj hv hp2 p _ hC nC hmx => ?_) (fun u4 ys p _ l4 r4 => ?_)
    · intro b hb
      simp only [List.mem_cons, List.not_mem_nil, or_false] at hb
      rcases hb with rfl | rfl <;> (clear z3 Ll cl uz hit oal ool hz hL hsz; omega)
    · rfl
    · rfl
    · obtain ⟨e, te, rfl, he⟩ := ints_get hoi (by simpa using hv)
      refine testsOne (wpAny_isTrue_Compare1 (eLocal nC hmx (eCell (p.cell d2) ?_)))
      refine notin_list_ints (p.list (p2.list hbl)) hbi (wpAny_truthy_bool ⟨?_, Past.refl, trivial⟩)
      rw [List.getD_eq_getElem?_getD, he]; rfl
    · exact eLocal nC hmx ⟨Past.refl, trivial, by simpa using hv⟩
    · have r5 := rows_ints hoi (fun x => !(big.any (· == x))) _ (Nat.le_refl _) (ys := ys) (by rw [← ool]; simpa using r4)
      rw [List.take_length] at r5
      have ok4 := ok2.past p
      have uu := ok4.units
      refine List_ (spliced_nil (rNewList fun e u7 he k7 z7 l7 => ?_))
      refine eq_intsK (k7.list l4) r5 l7 .nil (by (clear z7 he z3 hjt oal2 Ll cl uz hit oal hoa ool hz hL hsz; omega)) (wpAny_truthy_bool ?_)
      have key : (ns.filter (fun x => !(big.any (· == x))) = []) ↔ (ns.all fun x => big.any (· == x)) = true := by
        rw [List.filter_eq_nil_iff, List.all_eq_true]
        simp
      have p7 : Past H.objs.size Dn s u7 := (p2.trans p).kept k7
      by_cases hd : (ns.filter fun x => !(big.any (· == x))) = []
      · simp only [hd, decide_true, if_true]
        refine execs_cons (wpAny_Return_some ?_)
        have : heldF nss ns = true := by
          unfold heldF
          rw [List.any_eq_true]
          exact ⟨big, List.mem_of_getElem? hb, key.mp hd⟩
        have q := hQ u7 p7
        rw [this] at q
        exact wpAny_Constant_bool q
      · simp only [hd, decide_false, Bool.false_eq_true, if_false]
        refine execs_nil (execs_nil ⟨p7, k7.ns (p.ns n2), ⟨_, k7.cell (p.cell d2)⟩, k7.iter (p.iter it2), ok4.kept k7, ?_⟩)
        rw [take_succ' hb, List.any_append, q0]
        simp only [List.any_cons, List.any_nil, Bool.or_false, Bool.false_or]
        cases hq : (ns.all fun x => big.any (· == x)) with
        | false => rfl
        | true => exact absurd (key.mpr hq) hd
  · obtain ⟨p0, n0, _, it0, ok0, q0⟩ := ht
    refine execs_nil ?_
    refine execs_cons (wpAny_Return_some ?_)
    have : heldF nss ns = false := by
      unfold heldF
      rw [List.size_toArray, hpa.length, List.take_length] at q0
      exact q0
    have q := hQ u (p0.butt c1 (by (clear Ll uz oal hoa ool hz hsz; omega)))
    rw [this] at q
    exact wpAny_Constant_bool q
  · exact ⟨hp.kept ku, ku.ns hns, ⟨_, ku.cell hc⟩, ui, ok.kept ku, rfl⟩
end
end Kk
end

/-! ### W4 -/
section
open PySem PySem.W PySem.Calls PyProof.Rows
set_option maxRecDepth 100000
set_option maxHeartbeats 8000000
set_option linter.unusedVariables false
namespace Kk

noncomputable def setsF : List Int → Nat → List (List Int)
  | _, 0 => [[]]
  | [], _ + 1 => []
  | x :: xs, n + 1 => (setsF xs n).map (x :: ·) ++ setsF xs (n + 1)
noncomputable def accF (ns : List Int) (n k : Nat) : List (List Int) := (List.range k).flatMap fun j => (setsF (ns.drop (j + 1)) n).map (ns.getD j 0 :: ·)
theorem accF_all : ∀ (ns : List Int) (n : Nat), accF ns n ns.length = setsF ns (n + 1)
  | [], _ => rfl
  | x :: xs, n => by
    show (List.range (xs.length + 1)).flatMap _ = _
    rw [List.range_succ_eq_map, List.flatMap_cons, List.flatMap_map]
    have ih := accF_all xs n
    unfold accF at ih
    show (setsF ((x :: xs).drop 1) n).map ((x :: xs).getD 0 0 :: ·) ++ _ = (setsF xs n).map (x :: ·) ++ setsF xs (n + 1)
    rw [← ih]
    rfl
theorem accF_succ (ns : List Int) (n k : Nat) : accF ns n (k + 1) = accF ns n k ++ (setsF (ns.drop (k + 1)) n).map (ns.getD k 0 :: ·) := by
  unfold accF
  rw [List.range_succ, List.flatMap_append]
  simp
theorem setsF_len : ∀ (ns : List Int) (n : Nat), (setsF ns n).length ≤ 2 ^ ns.length
  | [], 0 => by simp [setsF]
  | [], n + 1 => by simp [setsF]
  | x :: xs, 0 => by simp only [setsF, List.length_singleton]; exact Nat.one_le_two_pow
  | x :: xs, n + 1 => by
    have h1 := setsF_len xs n
    have h2 := setsF_len xs (n + 1)
    simp only [setsF, List.length_append, List.length_map, List.length_cons, Nat.pow_succ]
    omega

theorem setsF_el : ∀ (ns : List Int) (n : Nat) (w : List Int), w ∈ setsF ns n → w.length ≤ ns.length
  | [], 0, w, h => by simp [setsF] at h; simp [h]
  | x :: xs, 0, w, h => by simp [setsF] at h; simp [h]
  | [], n + 1, w, h => by simp [setsF] at h
  | x :: xs, n + 1, w, h => by
    simp only [setsF, List.mem_append, List.mem_map] at h
    rcases h with ⟨v, hv, rfl⟩ | h
    · have := setsF_el xs n v hv
      simp; omega
    · have := setsF_el xs (n + 1) w h
      simp; omega

noncomputable def ILo (lo : Nat) (h : Heap) (v : Value) (ns : List Int) : Prop := ∃ (a : Nat) (vs : List Value), v = .ref a ∧ lo ≤ a ∧ h.IsList a vs.toArray ∧ IntsAre vs ns
noncomputable def LLo (lo : Nat) (h : Heap) (v : Value) (nss : List (List Int)) : Prop := ∃ (a : Nat) (vs : List Value), v = .ref a ∧ lo ≤ a ∧ h.IsList a vs.toArray ∧ All2 (ILo lo h) vs nss
section
variable {n₀ lo lo' a : Nat} {t u : Shared} {v : Value} {ns : List Int} {vs : List Value} {nss : List (List Int)}
theorem ILo.past (x : ILo lo t.heap v ns) (p : Past n₀ Dn t u) : ILo lo u.heap v ns := let ⟨a, vs, e, l, i, r⟩ := x; ⟨a, vs, e, l, p.list i, r⟩
theorem ILo.kept (x : ILo lo t.heap v ns) (p : Kept t u) : ILo lo u.heap v ns := x.past (n₀ := 0) p.past
theorem ILo.chg (x : ILo lo t.heap v ns) (c : Chg a t u) (h : ∀ b xs, t.heap.IsList b xs → lo ≤ b → b ≠ a) : ILo lo u.heap v ns := let ⟨b, vs, e, l, i, r⟩ := x; ⟨b, vs, e, l, c.list i (h _ _ i l), r⟩
theorem ILo.but (x : ILo lo t.heap v ns) (c : But a t u) (h : ∀ b xs, t.heap.IsList b xs → lo ≤ b → b ≠ a) : ILo lo u.heap v ns := let ⟨b, vs, e, l, i, r⟩ := x; ⟨b, vs, e, l, c.list i (h _ _ i l), r⟩
theorem ILo.low {h : Heap} (x : ILo lo h v ns) (hl : lo' ≤ lo) : ILo lo' h v ns := let ⟨a, vs, e, l, i, r⟩ := x; ⟨a, vs, e, Nat.le_trans hl l, i, r⟩
theorem ILo.il {h : Heap} (x : ILo lo h v ns) : IL h v ns := let ⟨a, vs, e, l, i, r⟩ := x; ⟨a, vs, e, i, r⟩
theorem LLo.past (x : LLo lo t.heap v nss) (p : Past n₀ Dn t u) : LLo lo u.heap v nss := let ⟨a, vs, e, l, i, r⟩ := x; ⟨a, vs, e, l, p.list i, r.imp fun _ _ q => q.past p⟩
theorem LLo.low {h : Heap} (x : LLo lo h v nss) (hl : lo' ≤ lo) : LLo lo' h v nss := let ⟨a, vs, e, l, i, r⟩ := x; ⟨a, vs, e, Nat.le_trans hl l, i, r.imp fun _ _ q => q.low hl⟩
theorem LLo.ll {h : Heap} (x : LLo lo h v nss) : LL h v nss := let ⟨a, vs, e, l, i, r⟩ := x; ⟨a, vs, e, i, r.imp fun _ _ q => q.il⟩
end
theorem All2.snoc {α β : Type} {R : α → β → Prop} {a : α} {b : β} (h : R a b) : ∀ {l : List α} {l' : List β}, All2 R l l' → All2 R (l ++ [a]) (l' ++ [b])
  | _, _, .nil => .cons h .nil
  | _, _, .cons x y => .cons x (y.snoc h)

theorem ints_drop : ∀ {vs : List Value} {ns : List Int}, IntsAre vs ns → ∀ i, IntsAre (vs.drop i) (ns.drop i)
  | _, _, .nil, i => by simp only [List.drop_nil]; exact .nil
  | _, _, .cons n t h, 0 => .cons n t h
  | _, _, .cons n t h, i + 1 => ints_drop h i
theorem ints_get' : ∀ {vs : List Value} {ns : List Int}, IntsAre vs ns → ∀ {i : Nat} {n : Int}, ns[i]? = some n → ∃ t, vs[i]? = some (.int n t)
  | _, _, .cons n t h, 0, _, e => by cases e; exact ⟨t, rfl⟩
  | _, _, .cons n t h, i + 1, _, e => ints_get' h (i := i) e
/-- unlike objects lie apart -/
theorem list_ne_ns {h : Heap} {a b : Nat} {xs : Array Value} {m : Str → Option Value} (x : h.IsList a xs) (y : h.Ns b m) : a ≠ b := fun q => by
  obtain ⟨o, e, _, n, d⟩ := x
  obtain ⟨o', es, ep, e', d', _⟩ := y
  rw [q, e'] at e; cases e; rw [d'] at d; cases d
theorem list_ne_cls {h : Heap} {a b : Nat} {xs : Array Value} {o' : Obj} (x : h.IsList a xs) (y : h.get? b = some o') (hc : o'.cls ≠ .type "list") : a ≠ b := fun q => by
  obtain ⟨o, e, c, _⟩ := x
  rw [q, y] at e; cases e; exact hc c
theorem list_ne_iter {h : Heap} {a b l i : Nat} {xs : Array Value} (x : h.IsList a xs) (y : h.IsListIter b l i) : a ≠ b := by
  obtain ⟨o, e, c, _⟩ := y
  exact list_ne_cls x e (by rw [c]; decide)
theorem list_ne_range {h : Heap} {a b : Nat} {x l st : Int} {xs : Array Value} (z : h.IsList a xs) (y : IsRangeIter h b x l st) : a ≠ b := list_ne_cls z y (by intro q; injection q with q; revert q; decide)

section
variable {prog : Program} {w : World} {H : Heap} {mg mb : Str → Option Value} {A : Around} {s : Shared} {k : Nat}
theorem sets_spec (B : Base w H mg mb) : ∀ (n : Nat) {A : Around} {s : Shared} {names : Value} {ns : List Int} {tn : Tok} {Q : Value → Shared → Prop}, Ok H A s.heap (8 + n) → IL s.heap names ns → ns.length ≤ 6 →
    (∀ u r, Past H.objs.size Dn s u → LLo s.heap.objs.size u.heap r (setsF ns n) → Q r u) → Wp prog w A (call (.ref 79) [names, .int n tn]) Q s := by
  intro n
  induction n with
  | zero =>
    intro A s names ns tn Q o h1 hlen hQ
    refine callFn B (k := 7) o (f := 79) (fd := fdSets) (binds := [("names", names), ("size", .int (0 : Nat) tn)]) rfl rfl rfl rfl (by decide) (by
      intro x hx
      simp only [List.mem_cons, List.not_mem_nil, or_false] at hx
      rcases hx with rfl | rfl <;> rfl) fun L st hL hns0 hp ok => ?_
    obtain ⟨m, hns, m1, m2⟩ : ∃ m, st.heap.Ns L m ∧ m "names" = some names ∧ m "size" = some (.int (0 : Nat) tn) := ⟨_, hns0, rfl, rfl⟩
    clear hns0
    generalize A.deeper (callEnv fdSets L 79) = A1 at ok ⊢
    refine execs_cons (wpAny_If (wpAny_isTrue_Compare1 (eLocal hns m2 (rConstInt fun t u ku hu => wpAny_eq_int (wpAny_truthy_bool ?_)))))
    refine execs_cons (wpAny_Return_some (List_ (sCons (List_ (sNil (rNewList fun a u2 ha k2 z2 l2 => ?_))))))
    refine sNil (rNewList fun b u3 hb k3 z3 l3 => ?_)
    have Ll := ns_lt (ku.ns hns)
    have hal := isList_lt l2
    rw [show setsF ns 0 = [[]] by cases ns <;> rfl] at hQ
    have key : LLo s.heap.objs.size u3.heap (.ref b) [[]] := ⟨b, [.ref a], rfl, by (clear hal z3 hlen; omega), l3, .cons ⟨a, [], rfl, by (clear hal z3 hb z2 hlen; omega), k3.list l2, .nil⟩ .nil⟩
    exact hQ u3 (.ref b) (((hp.kept ku).kept k2).kept k3) key
  | succ n ih =>
    intro A s names ns tn Q o h1 hlen hQ
    refine callFn B (k := 8 + n) o (f := 79) (fd := fdSets) (binds := [("names", names), ("size", .int (n + 1 : Nat) tn)]) rfl rfl rfl rfl (by decide) (by
      intro x hx
      simp only [List.mem_cons, List.not_mem_nil, or_false] at hx
      rcases hx with rfl | rfl <;> rfl) fun L st hL hns0 hp ok => ?_
    obtain ⟨m, hns, m1, m2⟩ : ∃ m, st.heap.Ns L m ∧ m "names" = some names ∧ m "size" = some (.int (n + 1 : Nat) tn) := ⟨_, hns0, rfl, rfl⟩
    clear hns0
    generalize A.deeper (callEnv fdSets L 79) = A1 at ok ⊢
    obtain ⟨na, nvs, rfl, hnl, hni⟩ := h1
    have hz := o.size
    refine execs_cons (wpAny_If (wpAny_isTrue_Compare1 (eLocal hns m2 (rConstInt fun t u ku hu => wpAny_eq_int (wpAny_truthy_bool ?_)))))
    have e0 : (((n + 1 : Nat) : Int) == 0) = false := by simp; (clear hz hL hlen; omega)
    rw [e0]
    refine execs_nil ?_
    refine execs_cons (wpAny_Assign_Name (List_ (sNil (rNewPL fun sa u2 hsa k2 z2 l2 => ?_))))
    have Ll := ns_lt (ku.ns hns)
    refine rStoreLoc (L := L) (k2.ns (ku.ns hns)) (fun u3 c3 n3 => ?_) rfl rfl rfl
    have p3 := ((hp.kept ku).kept k2).chg c3 (by (clear Ll z2 hsa hz hlen; omega))
    have ok3 := ((ok.kept ku).kept k2).chgNs c3 (by (clear Ll z2 hsa hlen; omega)) n3
    have l3 := c3.pl l2 (Nat.ne_of_gt (by (clear z2 hz hL hlen; omega)))
    obtain ⟨m', n3, m3, m4, m5⟩ : ∃ m, u3.heap.Ns L m ∧ m "names" = some (.ref na) ∧ m "size" = some (.int (n + 1 : Nat) tn) ∧ m "sets" = some (.ref sa) := ⟨_, n3, m1, m2, rfl⟩
    clear m1 m2
    refine execs_cons (forStmt (cType B ok3 rfl PyProof.Rows.Boot.«range» rfl rfl (sCons (cBuilt B ok3 rfl PyProof.Rows.Boot.«len» rfl rfl (sCons (eLocal n3 m3 (sNil (rLen (p3.list hnl) ?_ fun t u4 k4 e4 => sNil ?_))))))))
    · rw [List.size_toArray, hni.length]; (clear Ll z2 hsa hz hL; omega)
    refine rRange1 fun r u5 hr k5 z5 r5 => ?_
    have nlen : nvs.toArray.size = ns.length := by rw [List.size_toArray, hni.length]
    rw [nlen] at r5
    have k35 := k4.trans k5
    have p5 := p3.kept k35
    have salt := (k35.pl l3).lt
    refine rIterRange r5 (by (clear salt nlen z5 hr Ll z2 hsa hz hL hlen; omega)) (by (clear salt nlen z5 hr Ll z2 hsa hz hL hlen; omega)) (by (clear salt nlen z5 hr Ll z2 hsa hz hL; omega)) fun it u6 hit k6 z6 i6 => ?_
    have Ll5 := ns_lt (k35.ns n3)
    have sLt : L < sa := by (clear Ll5 z6 hit salt nlen z5 hr z2 hz hL hlen; omega)
    have saIt : sa < it := by (clear sLt Ll5 z6 nlen z5 hr Ll z2 hsa hz hL hlen; omega)
    refine forIt (itRange (n := ns.length) (a := 0)) (fun i t => Past H.objs.size Dn s t ∧ (∃ m, t.heap.Ns L m ∧ m "names" = some (.ref na) ∧ m "size" = some (.int (n + 1 : Nat) tn) ∧ m "sets" = some (.ref sa)) ∧
        IsRangeIter t.heap it (0 + i) ((ns.length : Int) - i) 1 ∧ Ok H A1 t.heap (8 + n) ∧ ∃ vs : List Value, PL t.heap sa vs.toArray ∧ All2 (ILo (sa + 1) t.heap) vs (accF ns n i) ∧ vs.length ≤ 64 * i)
      ok.handled (fun i t h => h.2.2.1) (fun i v t u hi hv ht c1 st1 => ?_) (fun t u ht c1 => ?_) ?_
    · obtain ⟨q0, ⟨mm, nn, mn, ms, mt⟩, st0, ok0, vs, sl, sr, sz⟩ := ht
      obtain ⟨tk, rfl⟩ := hv
      have q1 := q0.chg c1 (by (clear sz hi saIt sLt Ll5 z6 nlen z5 hr z2 hz hlen; omega))
      have nn1 := c1.ns nn (Nat.ne_of_lt (by (clear sz hi saIt sLt Ll5 z6 nlen z5 hr z2 hz hL hlen; omega)))
      have ok1 : Ok H A1 u.heap (8 + n) := ok0.turn c1.same (by (clear sz hi saIt sLt Ll5 z6 nlen z5 hr z2 hlen; omega)) (.inr ⟨_, st0, by nofun⟩)
      have sl1 := c1.pl sl (Nat.ne_of_lt (by (clear sz hi saIt sLt Ll5 z6 nlen z5 hr Ll z2 hsa hz hL hlen; omega)))
      have sr1 := sr.imp fun _ _ q => q.chg c1 fun b xs hb _ => list_ne_range hb st0
      refine wpAny_assign_Name (rStoreLoc (L := L) nn1 (fun u7 c7 n7 => ?_) rfl rfl rfl)
      have q7 := q1.chg c7 (by (clear sz hi saIt sLt Ll5 z6 hit salt nlen z5 hr Ll z2 hsa hz hlen; omega))
      have ok7 := ok1.chgNs c7 (by (clear sz hi saIt sLt Ll5 z6 hit salt nlen z5 hr Ll z2 hsa hlen; omega)) n7
      have sl7 := c7.pl sl1 (Nat.ne_of_gt (by (clear sz hi saIt sLt Ll5 z6 hit salt nlen z5 hr z2 hz hL hlen; omega)))
      have sr7 := sr1.imp fun _ _ q => q.chg c7 fun b xs hb _ => list_ne_ns hb nn1
      have st7 : IsRangeIter u7.heap it (0 + (i + 1 : Nat)) ((ns.length : Int) - (i + 1 : Nat)) 1 := (c7.same.2 _ (Nat.ne_of_gt (by (clear sz hi saIt sLt Ll5 z6 nlen z5 hr z2 hz hL hlen; omega)))).trans st1
      obtain ⟨m7, n7, a1, a2, a3, a4⟩ : ∃ m, u7.heap.Ns L m ∧ m "names" = some (.ref na) ∧ m "size" = some (.int (n + 1 : Nat) tn) ∧ m "sets" = some (.ref sa) ∧ m "k" = some (.int (0 + (i : Int)) tk) := ⟨_, n7, mn, ms, mt, rfl⟩
      clear mn ms mt nn nn1
      refine execs_cons (forStmt (cFn B ok7 rfl (fd := fdSets) rfl rfl rfl (sCons (rSlice (eLocal n7 a1 ?_)))))
      refine wpAny_BinOp (eLocal n7 a4 (rConstInt fun t8 u8 k8 e8 => add_int (wpAny_pure ?_)))
      have k8' : Kept u7 { u8 with toks := u8.toks + 1 } := k8.trans (Kept.tok _)
      generalize hu9 : ({ u8 with toks := u8.toks + 1 } : Shared) = u9 at k8' ⊢
      have ei : (0 : Int) + (i : Int) + 1 = ((i + 1 : Nat) : Int) := by (clear sz hi saIt sLt Ll5 z6 hit salt nlen z5 hr Ll z2 hsa hz hL hlen; omega)
      rw [ei]
      refine ⟨na, nvs.toArray, some ((i + 1 : Nat) : Int), none, rfl, (q7.kept k8').list hnl, by (clear ei sz hi saIt sLt Ll5 z6 hit salt z5 hr Ll z2 hsa hz hL; omega), .int _ _, .none, fun ca ua hca ka za la => ?_⟩
      rw [slicePick_from _ _ (by rw [nlen]; (clear za hca ei sz saIt sLt Ll5 z6 hit salt nlen z5 hr Ll z2 hsa hz hL hlen; omega))] at la
      have ka' := k8'.trans ka
      refine sCons (wpAny_BinOp (eLocal (ka'.ns n7) a2 (rConstInt fun tb ub kb eb => sub_int ?_)))
      have kb' : Kept u7 { ub with toks := ub.toks + 1 } := ka'.trans (kb.trans (Kept.tok _))
      have lb : ({ ub with toks := ub.toks + 1 } : Shared).heap.IsList ca (nvs.drop (i + 1)).toArray := kb.list la
      generalize hud : ({ ub with toks := ub.toks + 1 } : Shared) = ud at kb' lb ⊢
      have en : ((n + 1 : Nat) : Int) - 1 = (n : Nat) := by (clear za hca ei sz hi saIt sLt Ll5 z6 hit salt nlen z5 hr Ll z2 hsa hz hL hlen; omega)
      rw [en]
      have okd := ok7.kept kb'
      refine sNil ⟨⟨_, okd⟩, ih okd ⟨ca, _, rfl, lb, ints_drop hni (i + 1)⟩ (by rw [List.length_drop]; (clear en za hca ei sz hi saIt sLt Ll5 z6 hit salt nlen z5 hr Ll z2 hsa hz hL; omega)) fun ue re pe le => ?_⟩
      obtain ⟨la, lvs, rfl, hla, ll, lr⟩ := le
      have kd : sa + 1 ≤ ud.heap.objs.size := (kb'.pl sl7).lt
      refine rIterList ll fun jt uf hjt kf zf jf => ?_
      have pf := (Past.kept (Past.refl (n₀ := H.objs.size) (D := Dn)) kb' |>.trans pe).kept kf
      have lal := isList_lt ll
      have stf : IsRangeIter uf.heap it (0 + (i + 1 : Nat)) ((ns.length : Int) - (i + 1 : Nat)) 1 := pf.ext.get st7 (fun f => f) (by nofun)
      have itl : it < u7.heap.objs.size := Heap.lt_size st7
      have itj : it < jt := by
        have hq : (it : Nat) < ue.heap.objs.size := Heap.lt_size (pe.ext.get (kb'.keep _ _ st7) (fun f => f) (by nofun) : ue.heap.get? it = _)
        (clear itl lal zf kd hla en za hca ei sz hi saIt sLt Ll5 z6 hit salt nlen z5 hr Ll z2 hsa hz hL hlen; omega)
      have ilen : lvs.length ≤ 64 := by
        have h1 := lr.length
        have h2 := setsF_len (List.drop (i + 1) ns) n
        have h3 : (List.drop (i + 1) ns).length ≤ 6 := by rw [List.length_drop]; (clear h2 h1 itj itl lal zf hjt kd hla en za hca ei sz hi saIt sLt Ll5 z6 hit salt nlen z5 hr Ll z2 hsa hz hL; omega)
        have h4 : 2 ^ (List.drop (i + 1) ns).length ≤ 2 ^ 6 := Nat.pow_le_pow_right (by decide) h3
        (clear h3 itj itl lal zf hjt kd hla en za hca ei sz hi saIt sLt Ll5 z6 hit salt nlen z5 hr Ll z2 hsa hz hL hlen; omega)
      obtain ⟨nx, hnx⟩ : ∃ nx, ns[i]? = some nx := ⟨ns[i], by simp [hi]⟩
      have gx : ns.getD i 0 = nx := by rw [List.getD_eq_getElem?_getD, hnx]; rfl
      obtain ⟨tx, hvx⟩ := ints_get' hni hnx
      refine forList (I := fun j t => Past H.objs.size Dn s t ∧ (∃ m, t.heap.Ns L m ∧ m "names" = some (.ref na) ∧ m "size" = some (.int (n + 1 : Nat) tn) ∧ m "sets" = some (.ref sa) ∧ m "k" = some (.int (0 + (i : Int)) tk)) ∧
          IsRangeIter t.heap it (0 + (i + 1 : Nat)) ((ns.length : Int) - (i + 1 : Nat)) 1 ∧ Ok H A1 t.heap (8 + n) ∧ t.heap.IsListIter jt la j ∧ t.heap.IsList la lvs.toArray ∧ All2 (ILo ud.heap.objs.size t.heap) lvs (setsF (List.drop (i + 1) ns) n) ∧
          ∃ vs : List Value, PL t.heap sa vs.toArray ∧ All2 (ILo (sa + 1) t.heap) vs (accF ns n i ++ ((setsF (List.drop (i + 1) ns) n).take j).map (ns.getD i 0 :: ·)) ∧ vs.length ≤ 64 * i + j)
        ok.handled (fun j t h => ⟨h.2.2.2.2.1, h.2.2.2.2.2.1⟩) (fun j v t ug hv ht cg ig => ?_) (fun t ug ht cg => ?_) ?_
      · obtain ⟨y0, ⟨mm, nn, b1, b2, b3, b4⟩, sti, oki, ji, lai, lri, ws, wl, wr, wz⟩ := ht
        have hj : j < lvs.length := by
          have := (List.getElem?_eq_some_iff.mp (by simpa using hv)).1
          exact this
        obtain ⟨lf, hlf, hL2⟩ := lri.get (by simpa using hv)
        have y1 := y0.chg cg (by (clear hj wz gx ilen itj itl zf en za hca ei sz hi saIt sLt Ll5 z6 hit salt nlen z5 hr z2 hz hlen; omega))
        have nn1 := cg.ns nn (Nat.ne_of_lt (by (clear hj wz gx ilen itj itl zf en za hca ei sz hi saIt sLt Ll5 z6 hit salt nlen z5 hr z2 hz hL hlen; omega)))
        have sti1 : IsRangeIter ug.heap it (0 + (i + 1 : Nat)) ((ns.length : Int) - (i + 1 : Nat)) 1 := (cg.same.2 _ (Nat.ne_of_lt (by (clear hj wz gx ilen itl lal zf hjt kd hla en za hca ei sz hi saIt sLt Ll5 z6 hit salt nlen z5 hr Ll z2 hsa hz hL hlen; omega)))).trans sti
        have oki1 := oki.chgIter cg (by (clear hj wz gx ilen itj itl zf en za hca ei sz hi saIt sLt Ll5 z6 hit salt nlen z5 hr z2 hlen; omega)) ji
        have lai1 := cg.list lai (list_ne_iter lai ji)
        have lri1 := lri.imp fun _ _ q => q.chg cg fun b xs hb _ => list_ne_iter hb ji
        have wl1 := cg.pl wl (Nat.ne_of_lt (by (clear hj wz gx ilen itj itl zf en za hca ei sz hi saIt sLt Ll5 z6 hit salt nlen z5 hr Ll z2 hsa hz hL hlen; omega)))
        have wr1 := wr.imp fun _ _ q => q.chg cg fun b xs hb _ => list_ne_iter hb ji
        have hL3 := hL2.chg cg fun b xs hb _ => list_ne_iter hb ji
        refine wpAny_assign_Name (rStoreLoc (L := L) nn1 (fun uh ch nh => ?_) rfl rfl rfl)
        have y2 := y1.chg ch (by (clear hj wz gx ilen itj itl lal zf hjt kd hla en za hca ei sz hi saIt sLt Ll5 z6 hit salt nlen z5 hr Ll z2 hsa hz hlen; omega))
        have sti2 : IsRangeIter uh.heap it (0 + (i + 1 : Nat)) ((ns.length : Int) - (i + 1 : Nat)) 1 := (ch.same.2 _ (Nat.ne_of_gt (by (clear hj wz gx ilen itj itl lal zf hjt kd hla en za hca ei sz hi saIt sLt Ll5 z6 nlen z5 hr z2 hz hL hlen; omega)))).trans sti1
        have oki2 := oki1.chgNs ch (by (clear hj wz gx ilen itj itl lal zf hjt kd hla en za hca ei sz hi saIt sLt Ll5 z6 hit salt nlen z5 hr Ll z2 hsa hlen; omega)) nh
        have ji2 := ch.iter ig (Nat.ne_of_gt (by (clear hj wz gx ilen itj itl zf en za hca ei sz hi saIt sLt Ll5 z6 hit salt nlen z5 hr z2 hz hL hlen; omega)))
        have lai2 := ch.list lai1 (list_ne_ns lai1 nn1)
        have lri2 := lri1.imp fun _ _ q => q.chg ch fun b xs hb _ => list_ne_ns hb nn1
        have wl2 := ch.pl wl1 (Nat.ne_of_gt (by (clear hj wz gx ilen itj itl lal zf hjt kd hla en za hca ei sz hi saIt sLt Ll5 z6 hit salt nlen z5 hr z2 hz hL hlen; omega)))
        have wr2 := wr1.imp fun _ _ q => q.chg ch fun b xs hb _ => list_ne_ns hb nn1
        have hL4 := hL3.chg ch fun b xs hb _ => list_ne_ns hb nn1
        obtain ⟨m8, n8, d1, d2, d3, d4, d5⟩ : ∃ m, uh.heap.Ns L m ∧ m "names" = some (.ref na) ∧ m "size" = some (.int (n + 1 : Nat) tn) ∧ m "sets" = some (.ref sa) ∧ m "k" = some (.int (0 + (i : Int)) tk) ∧ m "left" = some v := ⟨_, nh, b1, b2, b3, b4, rfl⟩
        clear b1 b2 b3 b4 nh nn1 nn
        obtain ⟨lfa, lfv, rfl, lfl, lfL, lfI⟩ := hL4
        refine execs_cons (wpAny_Expr (cMethod PySem.F.slot_list_append PySem.F.type_list_append rfl rfl rfl (eLocal n8 d3 ⟨sa, _, rfl, wl2, ?_⟩)))
        refine wpAny_BinOp (List_ (sCons (Subscript_ (eLocal n8 d1 (eLocal n8 d4 (rItem (y2.list hnl) (by (clear lfl hj wz gx ilen itj itl lal zf hjt kd hla en za hca ei sz hi saIt sLt Ll5 z6 hit salt nlen z5 hr Ll z2 hsa hz hL hlen; omega)) (by (clear lfl hj wz gx ilen itj itl lal zf hjt kd hla en za hca ei sz saIt sLt Ll5 z6 hit salt nlen z5 hr Ll z2 hsa hz hL; omega)) (v := .int nx tx) ?_ (sNil (rNewList fun xa ui hxa ki zi li => ?_))))))))
        · have : ((0 : Int) + (i : Int)).toNat = i := by (clear lfl hj wz gx ilen itj itl lal zf hjt kd hla en za hca ei sz hi saIt sLt Ll5 z6 hit salt nlen z5 hr Ll z2 hsa hz hL hlen; omega)
          rw [this]
          simpa using hvx
        refine eLocal (ki.ns n8) d5 (rAddLists li (ki.list lfL) (fun xb uj hxb kj zj lj => ?_) ?_)
        · have kij := ki.trans kj
          refine rAppendPL (kij.pl wl2) (fun uk ck lk => ?_) ?_
          · have saxb : sa < xb := by
              have := (ki.pl wl2).lt
              (clear zj zi hxa lfl hj wz gx ilen itj itl lal zf hjt kd hla en za hca ei sz hi saIt sLt Ll5 z6 hit salt nlen z5 hr Ll z2 hsa hz hL hlen; omega)
            refine execs_nil ⟨(y2.kept kij).chg ck (by (clear saxb zj hxb zi hxa lfl hj wz gx ilen itj itl lal zf hjt kd hla en za hca ei sz hi saIt sLt Ll5 z6 hit salt nlen z5 hr z2 hz hlen; omega)), ⟨m8, ck.ns (kij.ns n8) (Nat.ne_of_lt (by (clear saxb zj hxb zi hxa lfl hj wz gx ilen itj itl lal zf hjt kd hla en za hca ei sz hi saIt sLt Ll5 z6 hit salt nlen z5 hr z2 hz hL hlen; omega))), d1, d2, d3, d4⟩, (ck.same.2 _ (Nat.ne_of_gt (by (clear saxb zj hxb zi hxa lfl hj wz gx ilen itj itl lal zf hjt kd hla en za hca ei sz hi saIt sLt Ll5 z6 nlen z5 hr Ll z2 hsa hz hL hlen; omega)))).trans (kij.keep _ _ sti2), (oki2.kept kij).chgList ck (by (clear saxb zj hxb zi hxa lfl hj wz gx ilen itj itl lal zf hjt kd hla en za hca ei sz hi saIt sLt Ll5 z6 hit salt nlen z5 hr z2 hlen; omega)) (kij.pl wl2).list,
              ck.iter (kij.iter ji2) (Nat.ne_of_gt (by (clear saxb zj hxb zi hxa lfl hj wz gx ilen itj itl zf en za hca ei sz hi saIt sLt Ll5 z6 hit salt nlen z5 hr Ll z2 hsa hz hL hlen; omega))), ck.list (kij.list lai2) (Nat.ne_of_gt (by (clear saxb zj hxb zi hxa lfl hj wz gx ilen itj itl lal zf hjt en za hca ei sz hi saIt sLt Ll5 z6 hit salt nlen z5 hr Ll z2 hsa hz hL hlen; omega))), (lri2.imp fun _ _ q => q.kept kij).imp fun _ _ q => q.chg ck fun b xs hb hlo => Nat.ne_of_gt (by (clear saxb zj hxb zi hxa lfl hj wz gx ilen itj itl lal zf hjt hla en za hca ei sz hi saIt sLt Ll5 z6 hit salt nlen z5 hr Ll z2 hsa hz hL hlen; omega)), ws ++ [.ref xb], by simpa using lk, ?_, by rw [List.length_append, List.length_singleton]; (clear saxb zj hxb zi hxa lfl hj gx ilen itj itl lal zf hjt kd hla en za hca ei sz hi saIt sLt Ll5 z6 hit salt nlen z5 hr Ll z2 hsa hz hL hlen; omega)⟩
            rw [take_succ' hlf, List.map_append, ← List.append_assoc]
            refine All2.snoc ?_ ((wr2.imp fun _ _ q => q.kept kij).imp fun _ _ q => q.chg ck fun b xs hb hlo => Nat.ne_of_gt (by (clear saxb zj hxb zi hxa lfl hj wz gx ilen itj itl lal zf hjt kd hla en za hca ei sz hi saIt sLt Ll5 z6 hit salt nlen z5 hr Ll z2 hsa hz hL hlen; omega)))
            refine ⟨xb, [.int nx tx] ++ lfv, rfl, by (clear zj hxb zi hxa lfl hj wz gx ilen itj itl lal zf hjt kd hla en za hca ei sz hi saIt sLt Ll5 z6 hit salt nlen z5 hr Ll z2 hsa hz hL hlen; omega), ck.list (by simpa using lj) (Nat.ne_of_gt (by (clear zj hxb zi hxa lfl hj wz gx ilen itj itl lal zf hjt kd hla en za hca ei sz hi saIt sLt Ll5 z6 hit salt nlen z5 hr Ll z2 hsa hz hL hlen; omega))), ?_⟩
            rw [gx]
            exact .cons _ _ lfI
          · rw [List.size_toArray]; (clear zj hxb zi hxa lfl gx itj itl lal zf hjt kd hla en za hca ei sz saIt sLt Ll5 z6 hit salt nlen z5 hr Ll z2 hsa hz hL; omega)
        · have h1 := lfI.length
          have h2 := setsF_el _ _ _ (List.mem_of_getElem? hlf)
          have h3 : (List.drop (i + 1) ns).length ≤ 6 := by rw [List.length_drop]; (clear h2 h1 zi hxa lfl hj wz gx ilen itj itl lal zf hjt kd hla en za hca ei sz hi saIt sLt Ll5 z6 hit salt nlen z5 hr Ll z2 hsa hz hL; omega)
          rw [List.size_toArray, List.size_toArray]
          simp only [List.length_singleton]
          (clear zi hxa lfl hj wz gx ilen itj itl lal zf hjt kd hla en za hca ei sz hi saIt sLt Ll5 z6 hit salt nlen z5 hr Ll z2 hsa hz hL hlen; omega)
      · obtain ⟨y0, ⟨mm, nn, b1, b2, b3, b4⟩, sti, oki, ji, lai, lri, ws, wl, wr, wz⟩ := ht
        refine execs_nil (execs_nil ⟨y0.butt cg (by (clear wz gx ilen itj itl zf en za hca ei sz hi saIt sLt Ll5 z6 hit salt nlen z5 hr z2 hz hlen; omega)), ⟨mm, cg.ns nn (Nat.ne_of_lt (by (clear wz gx ilen itj itl zf en za hca ei sz hi saIt sLt Ll5 z6 hit salt nlen z5 hr z2 hz hL hlen; omega))), b1, b2, b3⟩, cg.keep _ _ (Nat.ne_of_lt (by (clear wz gx ilen itl lal zf hjt kd hla en za hca ei sz hi saIt sLt Ll5 z6 hit salt nlen z5 hr Ll z2 hsa hz hL hlen; omega))) sti, oki.butIter cg (by (clear wz gx ilen itj itl zf en za hca ei sz hi saIt sLt Ll5 z6 hit salt nlen z5 hr z2 hlen; omega)) ji, ws, cg.pl wl (Nat.ne_of_lt (by (clear wz gx ilen itj itl zf en za hca ei sz hi saIt sLt Ll5 z6 hit salt nlen z5 hr Ll z2 hsa hz hL hlen; omega))), ?_, ?_⟩)
        · rw [accF_succ]
          rw [List.size_toArray, lri.length, List.take_length] at wr
          exact wr.imp fun _ _ q => q.but cg fun b xs hb _ => list_ne_iter hb ji
        · rw [List.size_toArray] at wz
          (clear gx itj itl lal zf hjt kd hla en za hca ei sz hi saIt sLt Ll5 z6 hit salt nlen z5 hr Ll z2 hsa hz hL hlen; omega)
      · refine ⟨((q7.kept kb').trans pe).kept kf, ⟨m7, pf.ns n7, a1, a2, a3, a4⟩, stf, ok7.past pf, jf, kf.list ll, lr.imp fun _ _ q => q.kept kf, vs, pf.pl sl7, ?_, by (clear gx ilen itj itl lal zf hjt kd hla en za hca ei hi saIt sLt Ll5 z6 hit salt nlen z5 hr Ll z2 hsa hz hL hlen; omega)⟩
        simp only [List.take_zero, List.map_nil, List.append_nil]
        exact sr7.imp fun _ _ q => q.past pf
    · obtain ⟨q0, ⟨mm, nn, mn, ms, mt⟩, st0, ok0, vs, sl, sr, sz⟩ := ht
      have n1 := c1.ns nn (Nat.ne_of_lt (by (clear sz saIt sLt Ll5 z6 nlen z5 hr z2 hz hL hlen; omega)))
      refine execs_nil (execs_cons (wpAny_Return_some (eLocal n1 mt ?_)))
      rw [accF_all] at sr
      have key : LLo s.heap.objs.size u.heap (.ref sa) (setsF ns (n + 1)) := ⟨sa, vs, rfl, by (clear sz saIt sLt Ll5 z6 hit salt nlen z5 hr z2 hz hlen; omega), (c1.pl sl (Nat.ne_of_lt (by (clear sz saIt sLt Ll5 z6 nlen z5 hr Ll z2 hsa hz hL hlen; omega)))).list, sr.imp fun _ _ q => (q.but c1 fun b xs hb _ => list_ne_range hb st0).low (by (clear sz saIt sLt Ll5 z6 hit salt nlen z5 hr z2 hz hlen; omega))⟩
      exact hQ u (.ref sa) (q0.butt c1 (by (clear sz saIt sLt Ll5 z6 nlen z5 hr z2 hz hlen; omega))) key
    · have e1 : (0 : Int) + ((0 : Nat) : Int) = 0 := by (clear saIt sLt Ll5 z6 hit salt nlen z5 hr Ll z2 hsa hz hL hlen; omega)
      have e2 : (ns.length : Int) - ((0 : Nat) : Int) = (ns.length : Int) - 0 := by (clear e1 saIt sLt Ll5 z6 hit salt nlen z5 hr Ll z2 hsa hz hL hlen; omega)
      refine ⟨p5.kept k6, ⟨m', k6.ns (k35.ns n3), m3, m4, m5⟩, ?_, (ok3.kept k35).kept k6, [], k6.pl (k35.pl l3), .nil, by simp⟩
      rw [e1, e2]
      exact i6
end
end Kk
end

/-! ### W5 -/
section
open PySem PySem.W PySem.Calls PyProof.Rows Builtin Builtin.ObjectAttr
set_option maxRecDepth 100000
set_option maxHeartbeats 8000000
set_option linter.unusedVariables false
namespace Kk

theorem entry_set_ga : entryFor table "set.__getattribute__" = some Builtin.«object.__getattribute__» := by
  exact entryFor_alias (id' := "object.__getattribute__") (by rw [fastTable_eq_tree]; kernel_rfl) (by first | rfl | decide +kernel) (by decide +kernel) (by rw [fastTable_eq_tree]; kernel_rfl)
theorem entry_md_get : entryFor table "method_descriptor.__get__" = some Builtin.«method_descriptor.__get__» := entryFor_of_tree (by kernel_rfl)
theorem slot_md_get : Slot "method_descriptor" "__get__" "method_descriptor.__get__" :=
  .of (owner := "method_descriptor") (n := "__get__") (by rw [typeLookup_type, builtinLookup_eq_fast]; kernel_rfl) (by decide +kernel) (by decide +kernel) (by decide +kernel)
    (by first | exact .inl (by decide +kernel) | exact .inr (by decide +kernel)) (by rw [isSubtype_type]; kernel_rfl)
theorem args_md_get (a b c : Value) : argsOk "method_descriptor.__get__" ⟨[a, b, c], []⟩ := by unfold argsOk; kernel_rfl
theorem no_set_on_md : specialOf (.builtin "set.__contains__") "__set__" = pure none := by
  show (typeOf (.builtin "set.__contains__") >>= fun t => typeLookup t "__set__") = _
  rw [PySem.F.type_set_contains]
  show typeLookup (.type "method_descriptor") "__set__" = _
  rw [typeLookup_type, builtinLookup_eq_fast]; kernel_rfl
theorem no_del_on_md : specialOf (.builtin "set.__contains__") "__delete__" = pure none := by
  show (typeOf (.builtin "set.__contains__") >>= fun t => typeLookup t "__delete__") = _
  rw [PySem.F.type_set_contains]
  show typeLookup (.type "method_descriptor") "__delete__" = _
  rw [typeLookup_type, builtinLookup_eq_fast]; kernel_rfl
theorem get_on_md : specialOf (.builtin "set.__contains__") "__get__" = pure (some (.builtin "method_descriptor.__get__")) := by
  show (typeOf (.builtin "set.__contains__") >>= fun t => typeLookup t "__get__") = _
  rw [PySem.F.type_set_contains]
  exact slot_md_get.lookup

section
variable {prog : Program} {w : World} {A : Around} {s : Shared}
theorem getattr_contains {S n : Nat} {es : Array (Int × Value)} {tb : SetTable} {ob : Obj} {Q : Value → Shared → Prop} (ho : s.heap.get? S = some ob) (hc : ob.cls = .type "set") (hd : ob.dict = none) (hdat : ob.data = .set es n tb)
    (h : ∀ (m : Nat) u, m = s.heap.objs.size → Kept s u → u.heap.objs.size = m + 1 → u.heap.get? m = some { cls := .type "builtin_function_or_method", data := .fields #[.builtin "set.__contains__", .ref S] } → Q (.ref m) u) :
    Wp prog w A (getAttr (.ref S) "__contains__" true) Q s := by
  have hT : s.TypeIs (.ref S) "set" := ⟨_, ho, hc⟩
  unfold getAttr
  refine wpAny_bind (wpAny_mkText ?_)
  generalize hu : ({ s with toks := s.toks + 1 } : Shared) = u
  have ku : Kept s u := hu ▸ Kept.tok _
  have ho2 : u.heap.get? S = some ob := ku.keep _ _ ho
  have hT2 : u.TypeIs (.ref S) "set" := ⟨_, ho2, hc⟩
  have hz : u.heap.objs.size = s.heap.objs.size := by rw [← hu]
  unfold getAttrBy
  refine wpAny_holding (wpAny_bind (wpAny_typeOf hT2 (wpAny_bind (wpAny_of_eq PySem.F.slot_set_getattribute.lookup ?_))))
  dsimp (config := { zeta := false, zetaHave := false }) only
  rw [if_neg (by simp [onTheHeap])]
  unfold getAttrByItsOwn hookBefore
  refine wpAny_bind ?_
  rw [if_neg (by simp [onTheHeap])]
  refine wpAny_pure (wpAny_bind (wpAny_attempt (wpAny_holding ?_)))
  unfold callGetattribute
  rw [if_neg (by simp [onTheHeap])]
  unfold boundAndCalled
  refine wpAny_bind (wpAny_of_eq (PySem.F.slot_set_getattribute.bind _) ?_)
  refine wpAny_call_entry PySem.F.slot_set_getattribute hT2 entry_set_ga ?_ (PySem.F.args_set_getattribute_2 _ _)
  unfold Builtin.«object.__getattribute__»
  refine wpAny_bind (m := slotArgs "__getattribute__" 1 ⟨[.ref S, .str "__contains__" s.toks], []⟩) (wpAny_of_eq (a := (.ref S, [.str "__contains__" s.toks])) (by kernel_rfl) ?_)
  dsimp (config := { zeta := false, zetaHave := false }) only
  refine wpAny_bind (m := attrName (.str "__contains__" s.toks)) (wpAny_of_eq (a := ("__contains__" : Str)) (by kernel_rfl) ?_)
  refine wpAny_bind (wpAny_typeOf hT2 ?_)
  unfold find
  refine wpAny_bind (wpAny_bind (wpAny_of_eq PySem.F.slot_set_contains.lookup ?_))
  unfold getOf
  dsimp (config := { zeta := false, zetaHave := false }) only
  refine wpAny_bind (wpAny_of_eq get_on_md ?_)
  unfold dataDescriptor? takesStores
  dsimp (config := { zeta := false, zetaHave := false }) only
  have f1 := no_set_on_md
  have f2 := no_del_on_md
  have f3 := get_on_md
  obtain ⟨ho1, g, d, tk, os⟩ := u
  obtain ⟨cls, dict, data, sl⟩ := ob
  simp only at hc hd hdat
  subst hc hd hdat
  wp_walk
  refine codeAny_call_builtin slot_md_get.plain entry_md_get (slot_md_get.check _ _ _ _ _ _ _ _ PySem.F.type_set_contains (args_md_get _ _ _) ?_)
  have f4 : isSubtype (.type "set") (.type (".".intercalate ("set.__contains__".cutAt '.').dropLast)) = pure true := by
    rw [show ".".intercalate ("set.__contains__".cutAt '.').dropLast = "set" by decide +kernel, isSubtype_type]; kernel_rfl
  unfold Builtin.«method_descriptor.__get__»
  wp_walk
  cases hu
  exact ⟨_, rfl, wpAny_pure (h _ _ rfl (ku.trans (Kept.push _)) (Heap.size_push ..) (Heap.get?_push_size _ rfl))⟩
end
end Kk
end

/-! ### W6 -/
section
open PySem PySem.W PySem.Calls PyProof.Rows
set_option maxRecDepth 100000
set_option maxHeartbeats 8000000
namespace Kk
section
variable {prog : Program} {w : World} {A : Around} {s : Shared}

theorem quiet_contains {args : Args} : Code.quiet (.builtin "set.__contains__" args) = true := Code.quiet_builtin _ (by decide +kernel)
theorem check_args_sc (a b : Value) : (match Manifest.signature? "set.__contains__" with | some sig => Bind.checkArgs "set.__contains__" { sig with full := s!"{Bind.lastOf "set"}.{Bind.lastOf "set.__contains__"}" } ⟨[a, b], []⟩ | none => pure ()) = pure () := by kernel_rfl
theorem isType_no {a : Nat} {o : Obj} {Q : Bool → Shared → Prop} (ho : s.heap.get? a = some o) (hnc : ∀ c, o.data ≠ .cls c) (hq : Q false s) : Wp prog w A (isType (.ref a)) Q s := by
  unfold isType loadHead
  refine wpAny_bind (wpAny_loadPart_at ho ?_)
  obtain ⟨oc, od, odt, osl⟩ := o
  cases odt <;> first | exact wpAny_pure hq | exact absurd rfl (hnc _)
theorem check_bound_contains {S : Nat} {v : Value} {Q : Unit → Shared → Prop} (hT : s.TypeIs (.ref S) "set") (hd : ∀ o, s.heap.get? S = some o → ∀ c, o.data ≠ .cls c) (h : Q () s) : Wp prog w A (checkBoundCall "set.__contains__" ⟨[.ref S, v], []⟩) Q s := by
  have e2 := check_args_sc (.ref S) v
  have e3 : builtinKind "set.__contains__" = some .method := by decide +kernel
  have e4 : Manifest.varargsMethods.contains "set.__contains__" = false := by decide +kernel
  unfold checkBoundCall
  cases e1 : Manifest.signature? "set.__contains__" with
  | none => exact wpAny_pure h
  | some sg =>
  rw [e1] at e2
  rw [e3]
  dsimp only at e2 ⊢
  rw [if_neg (by decide)]
  refine wpAny_bind (wpAny_isInstance hT (U := "module") (b := false) (by rw [isSubtype_type]; kernel_rfl) ?_)
  rw [e4]
  rw [if_neg (by decide)]
  obtain ⟨o, ho, hc⟩ := id hT
  refine wpAny_bind (isType_no ho (hd o ho) ?_)
  rw [if_neg (by decide)]
  refine wpAny_bind (wpAny_typeOf hT ?_)
  dsimp only
  exact wpAny_of_eq (a := ()) e2 h
theorem call_bound_contains {a S : Nat} {x : Int} {t : Tok} {o : Obj} {P : Int → Bool} {n : Nat} {Q : Value → Shared → Prop} (ho : s.heap.get? a = some o) (hc : o.cls = .type "builtin_function_or_method")
    (hd : o.data = .fields #[.builtin "set.__contains__", .ref S]) (hS : s.heap.SetOf (intKind prog w) S P n) (hx : (intKind prog w).is x (.int x t) = true)
    (h : ∀ tk, Q (.bool (P x)) { s with toks := tk }) : Wp prog w A (call (.ref a) [.int x t]) Q s := by
  have hT : Shared.TypeIs s (.ref S) "set" := hS.typeIs
  have hnc : ∀ o, s.heap.get? S = some o → ∀ c, o.data ≠ .cls c := by
    obtain ⟨o', es, ep, tb, e, _, hd', _⟩ := hS
    intro o2 e2
    rw [e] at e2; cases e2
    rw [hd']
    nofun
  refine wpAny_call (codeAny_of_tree ?_)
  show wpAny _ A.in1 (callAny (.ref a) ⟨[.int x t], []⟩) _ _ s
  simp only [callAny]
  refine wpAny_bind (wpAny_load ho ?_)
  simp only [hc, hd]
  rw [if_pos (by decide)]
  refine KFB.if_so (by decide) ?_
  refine wpAny_bind ((check_bound_contains hT hnc ?_).any)
  refine wpAny_bind (wpAny_pure (wpAny_pure ?_))
  refine ⟨quiet_contains, codeAny_builtin entry_set_contains ?_⟩
  unfold Builtin.«frozenset.__contains__» Builtin.Frozenset.oneOther
  simp only [List.isEmpty_nil, bind_assoc]
  unfold Builtin.Frozenset.addrOf Builtin.Frozenset.withSetAsKey setContains
  refine wpAny_bind (wpAny_pure ?_)
  try dsimp only
  refine wpAny_bind (wpAny_pure ?_)
  try dsimp only
  refine wpAny_bind (wpAny_tryCatch ?_)
  refine wpAny_holding ?_
  refine wpAny_bind ((intKind prog w).pyHash hx ?_)
  refine wpAny_bind (wpAny_setFind_of (s := { s with toks := s.toks + 1 }) hx (by rfl) hS fun r hr => ?_)
  refine wpAny_pure ?_
  show wpAny _ _ (ret (Value.bool r.isSome)) _ _ _
  rw [hr]
  exact wpAny_pure (h _)
end
end Kk
end

/-! ### W7 -/
section
open PySem PySem.W PySem.Calls PyProof.Rows PySem.Spec Builtin Builtin.ObjectAttr Builtin.Getset_descriptor
set_option maxRecDepth 100000
set_option maxHeartbeats 8000000
namespace Kk
section
variable {prog : Program} {w : World} {A : Around} {s : Shared} {env : Env} {K : Frag} {x C p : Addr} {ox od : Obj} {name : Str} {v : Value} {i : Nat} {R : Result → Shared → Prop}

/-- the slot is set -/
theorem slot_set' {ox' : Obj} {od : Option Obj} (X : K.In s.heap) (I : InstAt s.heap x ox C od)
    (hp : slotIn K p C = some i) (hi : i < 1000)
    (e : { ox with slots := (ox.slots ++ Array.replicate (i + 1 - ox.slots.size) none).setIfInBounds i (some v) } = ox') (hf : ox'.isFreed = false)
    (h : ∀ u, Chg x s u → u.heap.get? x = some ox' → R (.ok (.ret .none)) u) :
    codeAny (model prog w) A (.call (.builtin "member_descriptor.__set__") ⟨[.ref p, .ref x, v], []⟩) R s := by
  obtain ⟨n, tn, owner, behind, tb, d, sl, cd, ho, hc, hm, hb, rfl⟩ := slot_of X hp
  have hx := I.at_
  have fin : ∀ f : Obj → Obj, f ox = ox' → R (.ok (.ret .none)) { s with heap := s.heap.update x f } := fun f hfe =>
    h { s with heap := s.heap.update x f } ⟨Heap.SameBut.update .., rfl, rfl, rfl⟩ (by subst hfe; exact Heap.get?_update_self _ hx hf)
  obtain ⟨hh, g, dr, t, os⟩ := s
  have L0 := I.type (M := model prog w)
  have L1 := looks_mroIn (M := model prog w) X hm
  have L2 : Looks (model prog w) hh (Slots.slotNamesOf (.ref C)) cd.slotNames := (looks_clsIn X hc).andThen .now
  dsimp only at ho hx L0 L1
  have f0 := looks_field (M := model prog w) ho 0 (v := .str n tn) rfl
  have f1 := looks_field (M := model prog w) ho 1 (v := owner) rfl
  have f3 := looks_field (M := model prog w) ho 3 (v := .builtin "proto.slot#set") rfl
  have f4 := looks_field (M := model prog w) ho 4 (v := .int behind tb) rfl
  refine codeAny_call_builtin PySem.W.KF.slot_mset.plain PySem.W.KF.entry_mset (PySem.W.KF.slot_mset.check _ _ _ _ _ _ _ _ ⟨_, ho, rfl⟩ (PySem.W.KF.args_mset _ _ _) ?_)
  unfold Builtin.«member_descriptor.__set__» descrSet descrStoreThrough descrCheckInstance descrNameAndClass isInstance
  have f5 : Looks (model prog w) hh (descrItself (.ref p)) [.ref p] := ((Looks.ld (part := none) ho).andThen .now).andThen (Looks.of_pure (by kernel_rfl))
  repeat lk
  refine ⟨Code.quiet_builtin _ (by decide +kernel), codeAny_builtin PySem.W.KF.entry_slotset ?_⟩
  unfold Builtin.«proto.slot#set» Slots.target
  repeat lk
  rw [if_neg hb]
  refine wpAny_pure (wpAny_bind ?_)
  unfold setSlotAt
  dsimp only
  rw [if_neg (by rw [sizeLine_eq]; (clear hb; omega))]
  exact wpAny_updatePart hx (wpAny_pure (fin _ e))
theorem rSetSlot {ox' : Obj} {Q : Unit → Shared → Prop} (X : K.In s.heap) (I : InstAt s.heap x ox C (some od))
    (hs : findIn K (.ref C) "__setattr__" = some (some (.builtin "object.__setattr__"))) (hp : plainOver K C = true) (ht : takerIn K C name = some (some (.ref p))) (hT : typeIn K (.ref p) = some (.type "member_descriptor")) (hi : slotIn K p C = some i) (hz : i < 1000)
    (e : { ox with slots := (ox.slots ++ Array.replicate (i + 1 - ox.slots.size) none).setIfInBounds i (some v) } = ox') (hf : ox'.isFreed = false)
    (h : ∀ u, Chg x s u → u.heap.get? x = some ox' → Q () u) : Wp prog w A (setAttr (.ref x) name v) Q s :=
  set_plain X I hs (osa_descr (s := { s with toks := s.toks + 1 }) PySem.W.KF.slot_mset X I hp ht hT (slot_set' (s := { s with toks := s.toks + 1 }) X I hi hz e hf fun u c hu => h u ⟨c.same, c.gens, c.drawn, c.os⟩ hu))
theorem rGetSlot {expr : Bool} {Q : Value → Shared → Prop} (X : K.In s.heap) (I : InstAt s.heap x ox C (some od)) (hg : plainGet K C name = true) (hc : isClsIn K C = true)
    (ha : findIn K (.ref C) name = some (some (.ref p))) (hn : specialIn K (.ref p) "__get__" = some (some (.builtin "member_descriptor.__get__"))) (ht : takesIn K (.ref p) = some true) (hp : slotIn K p C = some i)
    (hv : (ox.slots[i]?).join = some v) (hh : handedIn v = true) (h : ∀ u, Kept s u → u.heap = s.heap → Q v u) : Wp prog w A (getAttr (.ref x) name expr) Q s :=
  get_bind X I (plainGet_of hg).1 (findObj_data hc ha hn ht) (plainGet_of hg).2 (wpAny_call (slot_get (s := { s with toks := s.toks + 1 }) X I hp hv (handed_on hh (h _ (Kept.tok _) rfl))))
end

section
variable {prog : Program} {w : World} {H : Heap} {mg mb : Str → Option Value} {A : Around} {s : Shared} {k : Nat} {env : Env} {m : Str → Option Value}
theorem rIterB {l : Nat} {items : Array Value} {Q : Value → Shared → Prop} (hl : s.heap.IsList l items)
    (h : ∀ (it : Nat) u, it = s.heap.objs.size → Kept s u → u.heap.objs.size = it + 1 → u.heap.IsListIter it l 0 → Q (.ref it) u) : Wp prog w A (call (.builtin "iter") [.ref l]) Q s := by
  refine call_function_entry (by decide +kernel) (by decide +kernel) kdk_entry_iter (kdk_args_iter _) ?_
  unfold Builtin.«iter»
  refine wpAny_bind (m := someArgs "iter" 1 2 _) (wpAny_of_eq (a := [Value.ref l]) (by first | rfl | kernel_rfl!) ?_)
  show wpAny _ _ (pyIter (.ref l) >>= _) _ _ _
  refine wpAny_bind ((rIterList hl fun it u h1 h2 h3 h4 => wpAny_pure ⟨_, rfl, h it u h1 h2 h3 h4⟩).any)
/-- an object of class C with a dict and these slots -/
noncomputable def Inst (h : Heap) (x C : Nat) (sl : Array (Option Value)) : Prop := ∃ (dx : Nat) (od : Obj), h.get? x = some { cls := .ref C, dict := some dx, data := .plain, slots := sl } ∧ h.get? dx = some od ∧ ∃ es ep, od.data = .dict es ep
section
variable {n₀ a x C : Nat} {D : Addr → Prop} {h h' : Heap} {t u : Shared} {sl : Array (Option Value)}
theorem Inst.at (i : Inst h x C sl) : ∃ ox od, InstAt h x ox C (some od) ∧ ox.slots = sl ∧ ox.isFreed = false ∧ ∀ sl', ∃ ox', { ox with slots := sl' } = ox' ∧ ox'.isFreed = false ∧ ∀ h' : Heap, h'.get? x = some ox' → (∀ b o, b ≠ x → h.get? b = some o → h'.get? b = some o) → Inst h' x C sl' := by
  obtain ⟨dx, od, e1, e2, es, ep, hd⟩ := i
  refine ⟨_, od, ⟨e1, rfl, rfl, e2⟩, rfl, rfl, fun sl' => ⟨_, rfl, rfl, fun h' g k => ⟨dx, od, g, k dx od ?_ e2, es, ep, hd⟩⟩⟩
  rintro rfl
  rw [e1] at e2; cases e2; cases hd
theorem Inst.ext (i : Inst h x C sl) (e : Ext n₀ D h h') (nx : ¬ D x) (nd : ∀ b o es ep, h.get? b = some o → o.data = .dict es ep → ¬ D b) : Inst h' x C sl := by
  obtain ⟨dx, od, e1, e2, es, ep, hd⟩ := i
  have f1 := e.get e1 nx (by nofun)
  rcases e dx od e2 (nd _ _ _ _ e2 hd) with f2 | ⟨_, _, sl2, f2⟩
  · exact ⟨dx, od, f1, f2, es, ep, hd⟩
  · exact ⟨dx, _, f1, f2, es, ep, hd⟩
theorem Inst.past (i : Inst t.heap x C sl) (p : Past n₀ Dn t u) : Inst u.heap x C sl := i.ext p.ext (fun f => f) (fun _ _ _ _ _ _ f => f)
theorem Inst.kept (i : Inst t.heap x C sl) (p : Kept t u) : Inst u.heap x C sl := let ⟨dx, od, e1, e2, r⟩ := i; ⟨dx, od, p.keep _ _ e1, p.keep _ _ e2, r⟩
theorem Inst.lt (i : Inst h x C sl) : x < h.objs.size := let ⟨_, _, e, _⟩ := i; Heap.lt_size e
theorem Inst.chgNd (i : Inst t.heap x C sl) (c : Chg a t u) (hx : x ≠ a) (hd : ∃ o, t.heap.get? a = some o ∧ ∀ es ep, o.data ≠ .dict es ep) : Inst u.heap x C sl := by
  obtain ⟨dx, od, e1, e2, es, ep, hd'⟩ := i
  refine ⟨dx, od, (c.same.2 _ hx).trans e1, (c.same.2 _ ?_).trans e2, es, ep, hd'⟩
  rintro rfl
  obtain ⟨o, e, nd⟩ := hd
  rw [e2] at e; cases e
  exact nd _ _ hd'
theorem Ok.chgInst {H : Heap} {A : Around} {k : Nat} (o : Ok H A t.heap k) (c : Chg x t u) (ha : H.objs.size ≤ x) (i : Inst t.heap x C sl) : Ok H A u.heap k :=
  o.turn c.same ha (.inr (let ⟨_, _, e, _⟩ := i; ⟨_, e, by nofun⟩))
end
noncomputable def RetR (Q : Value → Shared → Prop) (r : Result) (s : Shared) : Prop := match r with
  | .ok (.ret v) => Q v s
  | _ => False

theorem callFnCode {f : Addr} {fd : FuncData} {body : List Stmt} {args : List Value} {binds : List (Str × Value)} {Q : Value → Shared → Prop} {oc : Value} {od : Option Addr} {sl : Array (Option Value)} (B : Base w H mg mb) (o : Ok H A s.heap (k + 1))
    (hf : (KF w.params).lookup f = some ⟨oc, od, .func fd, sl⟩) (hcd : codeIn (KF w.params) fd.code fd.qualname = true) (hbody : fd.body = .stmts body) (hbind : bindArgs fd ⟨args, []⟩ = pure binds)
    (hcell : ∀ x ∈ fd.scope.names, x.2 ≠ .cell) (hloc : ∀ x ∈ binds, fd.scope.names.lookup x.1 = some .local)
    (h : ∀ (L : Nat) st, L = s.heap.objs.size → st.heap.Ns L (fun x => binds.reverse.lookup x) → Past H.objs.size Dn s st → Ok H (A.deeper (callEnv fd L f)) st.heap k →
      Wp prog w (A.deeper (callEnv fd L f)) (execs body (callEnv fd L f)) (fun fl s' => Q (match fl with | .ret v => v | _ => .none) s') st)
    (hco : fd.scope.isCoroutine = false := by rfl) (hgen : fd.scope.isGenerator = false := by rfl) (hk : fd.scope.kind = .function := by rfl) : codeAny (model prog w) A (.call (.ref f) ⟨args, []⟩) (RetR Q) s := by
  refine (codeAny_call_def (fd := fd) (body := body) (binds := binds) (by have := o.depth; omega) (o.K B _ _ hf) rfl (o.nolimit B) (codeRec_of (o.K B) hcd) hbody (BindsTo.of_eq hbind) hcell hloc (fun h₁ hns hk₁ => ?_) hco hgen hk)
  have hx : Ext H.objs.size Dn s.heap h₁ := .of_keeps hk₁
  have o1 := o.ext hx Dok.nil
  refine Wp.any (h _ _ rfl hns (Past.refl.to hx) ⟨o1.old, by have := o1.depth; show A.depth + 1 + k < _; omega, by have := o1.units; show A.units + 3 + 20 * k < _; omega, o1.handled, ?_⟩)
  obtain ⟨l, hl, _, fr⟩ := o1.frames
  refine ⟨_ :: l, by show A.frames.map _ = _; rw [hl]; rfl, List.cons_ne_nil _ _, fun env he => ?_⟩
  rcases List.mem_cons.mp he with rfl | he
  · obtain ⟨ob, es, ep, e1, e2, _⟩ := hns
    exact ⟨by show fd.scope.kind ≠ _; rw [hk]; nofun, _, rfl, o.size, ob, es, ep, e1, e2⟩
  · exact fr env he
theorem ffInit_spec (B : Base w H mg mb) {x bm one : Nat} {items : Array Value} {Q : Value → Shared → Prop} (o : Ok H A s.heap (k + 2)) (hx : Inst s.heap x 54 #[]) (hlo : H.objs.size ≤ x)
    (hl : s.heap.IsList one items)
    (hQ : ∀ (it : Nat) u, s.heap.objs.size ≤ it → Past H.objs.size (· = x) s u → u.heap.IsListIter it one 0 → Inst u.heap x 54 #[some (.ref bm), some (.ref it)] → Q .none u) : codeAny (model prog w) A (.call (.ref 36) ⟨[.ref x, .ref bm, .ref one], []⟩) (RetR Q) s := by
  refine callFnCode B (k := k + 1) o (f := 36) (fd := fdFfInit) (binds := [("self", .ref x), ("function", .ref bm), ("iterable", .ref one)]) rfl rfl rfl rfl (by decide) (by
    intro x hx
    simp only [List.mem_cons, List.not_mem_nil, or_false] at hx
    rcases hx with rfl | rfl | rfl <;> rfl) fun L st hL hns0 hp ok => ?_
  obtain ⟨m, hns, m1, m2, m3⟩ : ∃ m, st.heap.Ns L m ∧ m "self" = some (.ref x) ∧ m "function" = some (.ref bm) ∧ m "iterable" = some (.ref one) := ⟨_, hns0, rfl, rfl, rfl⟩
  clear hns0
  generalize A.deeper (callEnv fdFfInit L 36) = A1 at ok ⊢
  have hz := o.size
  have xlt := hx.lt
  have Ll := ns_lt hns
  refine execs_cons (plainObj_wpAny_Assign_Attribute (cBuilt B ok rfl PyProof.Rows.Boot.«iter» rfl rfl (sCons (eLocal hns m3 (sNil ?_)))))
  refine rIterB (hp.list hl) fun it u hit ku zu iu => ?_
  refine eLocal (ku.ns hns) m1 ?_
  have i1 := (hx.past hp).kept ku
  obtain ⟨ox, od, I1, sl1, -, g1⟩ := i1.at
  obtain ⟨ox1, e1, fr1, n1⟩ := g1 #[none, some (.ref it)]
  have ok1 := ok.kept ku
  have p1 := hp.kept ku
  refine rSetSlot (K := KF w.params) (C := 54) (p := 56) (i := 1) (ok1.K B) I1 (by kernel_rfl) (by kernel_rfl) (by kernel_rfl) (by kernel_rfl) (by kernel_rfl) (by decide) (by rw [sl1]; exact e1) fr1 fun u2 c2 hx2 => ?_
  have i2 := n1 _ hx2 fun b o ne e => (c2.same.2 b ne).trans e
  have ok2 := ok1.chgInst c2 hlo i1
  have ns2 := c2.ns (ku.ns hns) (Nat.ne_of_gt (by (clear zu hit Ll hz hlo; omega)))
  refine execs_cons (plainObj_wpAny_Assign_Attribute (eLocal ns2 m2 (eLocal ns2 m1 ?_)))
  obtain ⟨ox2, od2, I2, sl2, -, g2⟩ := i2.at
  obtain ⟨ox3, e3, fr3, n3⟩ := g2 #[some (.ref bm), some (.ref it)]
  refine rSetSlot (K := KF w.params) (C := 54) (p := 55) (i := 0) (ok2.K B) I2 (by kernel_rfl) (by kernel_rfl) (by kernel_rfl) (by kernel_rfl) (by kernel_rfl) (by decide) (by rw [sl2]; exact e3) fr3 fun u3 c3 hx3 => ?_
  have i3 := n3 _ hx3 fun b o ne e => (c3.same.2 b ne).trans e
  have hsz : s.heap.objs.size ≤ it := by (clear zu xlt hz hlo; omega)
  have q : Past H.objs.size (· = x) s u3 := ⟨((p1.ext.weak0 (D := (· = x))).turn c2.same (.inr rfl)).turn c3.same (.inr rfl), c3.gens.trans (c2.gens.trans p1.gens), c3.drawn.trans (c2.drawn.trans p1.drawn), c3.os.trans (c2.os.trans p1.os)⟩
  exact execs_nil (hQ it u3 hsz q (c3.iter (c2.iter iu (Nat.ne_of_gt (by (clear hsz zu hz hlo; omega)))) (Nat.ne_of_gt (by (clear hsz zu hz hlo; omega)))) i3)
end
end Kk
end

/-! ### W8 -/
section
open PySem PySem.W PySem.Calls PyProof.Rows PySem.Spec
set_option maxRecDepth 100000
set_option maxHeartbeats 8000000
namespace Kk
theorem Past.fresh {n₀ : Nat} {D : Addr → Prop} {s₀ s t : Shared} (k : Past n₀ Dn s₀ s) (p : Past n₀ D s t) (hD : ∀ b, D b → s₀.heap.objs.size ≤ b) : Past n₀ Dn s₀ t := by
  refine ⟨fun b o e _ => ?_, p.gens.trans k.gens, p.drawn.trans k.drawn, p.os.trans k.os⟩
  have nb : ¬ D b := fun hd => Nat.lt_irrefl _ (Nat.lt_of_lt_of_le (Heap.lt_size e) (hD b hd))
  rcases k.ext b o e (fun f => f) with e1 | ⟨hb, hd, sl, e1⟩
  · exact p.ext b o e1 nb
  · rcases p.ext b _ e1 nb with e2 | ⟨_, _, sl2, e2⟩
    · exact .inr ⟨hb, hd, sl, e2⟩
    · exact .inr ⟨hb, hd, sl2, e2⟩
section
variable {prog : Program} {w : World} {H : Heap} {mg mb : Str → Option Value} {A : Around} {s : Shared} {k : Nat} {h : Heap} {C : Addr} {vals : List Value}
theorem Ok.typeCall (o : Ok H A h (k + 1)) : Ok H (A.under (.builtin "type.__call__" ⟨.ref C :: vals, []⟩)) h k :=
  ⟨o.old, by have := o.depth; show A.depth + 1 + k < _; omega, by have := o.units; show A.units + _ + 20 * k < _; have e : (Code.builtin "type.__call__" ⟨.ref C :: vals, []⟩).cUnits ≤ 20 := (by decide : (1 : Nat) ≤ 20)
                                                                  omega, o.handled, o.frames⟩
theorem Ok.in1 (o : Ok H A h (k + 1)) : Ok H A.in1 h k :=
  ⟨o.old, by have := o.depth; show A.depth + k < _; omega, by have := o.units; show A.units + 1 + 20 * k < _; omega, o.handled, o.frames⟩
/-- filterfalse(bm, one) -/
theorem ffMake_spec (B : Base w H mg mb) {bm one : Nat} {items : Array Value} {Q : Value → Shared → Prop} (o : Ok H A s.heap (k + 3)) (hl : s.heap.IsList one items)
    (hQ : ∀ (x it : Nat) u, s.heap.objs.size ≤ it → s.heap.objs.size ≤ x → x ≠ it → Past H.objs.size Dn s u → u.heap.IsListIter it one 0 → Inst u.heap x 54 #[some (.ref bm), some (.ref it)] → Q (.ref x) u) : Wp prog w A (call (.ref 54) [.ref bm, .ref one]) Q s := by
  obtain ⟨hh, g, d, t, os⟩ := s
  refine wpAny_call (make_core (makes_of (K := KF w.params) (o.K B) (by kernel_rfl)) (init := .ref 36) (looks_findIn (o.K B) (by kernel_rfl)) (fun self => bind_fn (o.K B) self (by kernel_rfl)) (.inl rfl) ?_)
  dsimp only at o hl hQ ⊢
  have k1 : Kept (⟨hh, g, d, t, os⟩ : Shared) ⟨(hh.push emptyDict).push (instObj 54 hh.objs.size), g, d, t, os⟩ := ⟨fun b o e => Heap.get?_push_of_some _ (Heap.get?_push_of_some _ e), rfl, rfl, rfl⟩
  have o1 := (o.kept k1).typeCall (C := 54) (vals := [.ref bm, .ref one])
  have hx : ((hh.push emptyDict).push (instObj 54 hh.objs.size)).get? (hh.objs.size + 1) = some (instObj 54 hh.objs.size) := by heap_get
  have hd : ((hh.push emptyDict).push (instObj 54 hh.objs.size)).get? hh.objs.size = some emptyDict := by heap_get
  have hz := o.size
  have r := ffInit_spec (prog := prog) (A := A.under (.builtin "type.__call__" ⟨.ref 54 :: [.ref bm, .ref one], []⟩)) (s := ⟨(hh.push emptyDict).push (instObj 54 hh.objs.size), g, d, t, os⟩) (x := hh.objs.size + 1) (bm := bm) (one := one) (k := k) B o1 ⟨hh.objs.size, emptyDict, hx, hd, _, _, rfl⟩ (by omega) (k1.list hl)
    (Q := fun v u => v = .none ∧ Q (.ref (hh.objs.size + 1)) u) (fun it u e1 e2 e3 e4 => ⟨rfl, ?_⟩)
  · refine codeAny_mono r fun r' u hr => ?_
    rcases r' with e | (v | _ | _ | _) <;> first | exact hr.elim | exact hr
  · have hz2 : ((hh.push emptyDict).push (instObj 54 hh.objs.size)).objs.size = hh.objs.size + 2 := by rw [Heap.size_push, Heap.size_push]
    have e1' : hh.objs.size + 2 ≤ it := by have := e1; dsimp only at this; omega
    refine hQ _ it u (by omega) (by omega) (Nat.ne_of_lt (by omega)) ?_ e3 e4
    exact Past.fresh k1.past e2 fun b hb => by subst hb; exact Nat.le_succ _
end
end Kk
end

/-! ### W9 -/
section
open PySem PySem.W PySem.Calls PyProof.Rows PySem.Spec
set_option maxRecDepth 100000
set_option maxHeartbeats 8000000
namespace Kk
section
variable {prog : Program} {w : World} {H : Heap} {mg mb : Str → Option Value} {A : Around} {s : Shared} {k : Nat} {h : Heap}

noncomputable def Dif (prog : Program) (w : World) (h : Heap) (x it one i : Nat) (ns : List Int) : Prop :=
  ∃ (bm S n : Nat) (ob : Obj), Inst h x 54 #[some (.ref bm), some (.ref it)] ∧ h.get? bm = some ob ∧ ob.cls = .type "builtin_function_or_method" ∧ ob.data = .fields #[.builtin "set.__contains__", .ref S] ∧
    h.SetOf (intKind prog w) S (fun z => ns.contains z) n ∧ h.IsListIter it one i
theorem firstMet_contains (vs : List Value) (ns : List Int) (hi : IntsAre vs ns) (z : Int) : (firstMet (fun i => ns.getD i 0) vs.toArray.size).any (· == z) = ns.contains z := by
  rw [firstMet_any]
  have hl := hi.length
  have e : (List.range vs.toArray.size).map (fun i => ns.getD i 0) = ns := by
    apply List.ext_getElem?
    intro i
    simp only [List.getElem?_map, List.size_toArray, hl]
    by_cases h : i < ns.length
    · simp [h, List.getD_eq_getElem?_getD]
    · simp [h]
  rw [e]
  rw [Bool.eq_iff_iff]
  simp
theorem SetOf.keep {h h' : Heap} {a n : Nat} {S : Int → Bool} (x : h.SetOf (intKind prog w) a S n) (e : ∀ o, h.get? a = some o → (∀ es ep, o.data ≠ .dict es ep) → h'.get? a = some o) : h'.SetOf (intKind prog w) a S n := by
  obtain ⟨o, es, ep, t, ho, hx, hd, r⟩ := x
  exact ⟨o, es, ep, t, e o ho (by rw [hd]; nofun), hx, hd, r⟩
theorem diff_spec (B : Base w H mg mb) {one other : Nat} {items : Array Value} {vs : List Value} {ns : List Int} {Q : Value → Shared → Prop} (o : Ok H A s.heap (k + 5)) (hl : s.heap.IsList one items)
    (ho : s.heap.IsList other vs.toArray) (hi : IntsAre vs ns) (hz : vs.length ≤ 1000)
    (hQ : ∀ (x it : Nat) u, s.heap.objs.size ≤ it → s.heap.objs.size ≤ x → x ≠ it → Past H.objs.size Dn s u → Dif prog w u.heap x it one 0 ns → Q (.ref x) u) : Wp prog w A (call (.ref 65) [.ref one, .ref other]) Q s := by
  refine callFn B (k := k + 4) o (f := 65) (fd := fdDiff) (binds := [("minuend", .ref one), ("subtrahend", .ref other)]) rfl rfl rfl rfl (by decide) (by
    intro x hx
    simp only [List.mem_cons, List.not_mem_nil, or_false] at hx
    rcases hx with rfl | rfl <;> rfl) fun L st hL hns0 hp ok => ?_
  obtain ⟨m, hns, m1, m2⟩ : ∃ m, st.heap.Ns L m ∧ m "minuend" = some (.ref one) ∧ m "subtrahend" = some (.ref other) := ⟨_, hns0, rfl, rfl⟩
  clear hns0
  generalize A.deeper (callEnv fdDiff L 65) = A1 at ok ⊢
  refine execs_cons (wpAny_Return_some (wpAny_Call_NameR (eGlob B ok (v := .ref 54) rfl ?_)))
  refine callWith_K (h₀ := st.heap) (K := KF w.params) (ok.K B) (by kernel_rfl) ?_
  refine sCons (Attribute_any_ (cType B ok rfl PyProof.Rows.Boot.«set» rfl rfl (sCons (eLocal hns m2 (sNil ?_)))))
  refine call_set_list ok.handled (hp.list ho) hi ?_ fun h' tk hS hk => ?_
  · show vs.toArray.size + 1 < 4096
    rw [List.size_toArray]; omega
  have hS' : h'.SetOf (intKind prog w) st.heap.objs.size (fun z => ns.contains z) (firstMet (fun i => ns.getD i 0) vs.toArray.size).length := SetOf_congr hS (firstMet_contains vs ns hi) rfl
  have k1 : Kept st { st with heap := h', toks := tk } := ⟨fun b o e => hk b o (Heap.lt_size e) e, rfl, rfl, rfl⟩
  generalize ({ st with heap := h', toks := tk } : Shared) = u1, hu1 : { st with heap := h', toks := tk } = u1 at k1 ⊢
  have hS1 : u1.heap.SetOf (intKind prog w) st.heap.objs.size (fun z => ns.contains z) (firstMet (fun i => ns.getD i 0) vs.toArray.size).length := by rw [← hu1]; exact hS'
  clear hu1 hS hS' hk
  generalize (firstMet (fun i => ns.getD i 0) vs.toArray.size).length = n at hS1
  generalize hSS : st.heap.objs.size = S at hS1 ⊢
  obtain ⟨so, es, ep, tb, hso, ⟨x1, x2, x3⟩, x4, xr⟩ := id hS1
  refine getattr_contains hso x1 x2 x4 fun bm u2 hbm k2 z2 b2 => ?_
  refine sCons (eLocal (k2.ns (k1.ns hns)) m1 (sNil ?_))
  have ok2 := (ok.kept k1).kept k2
  have hS2 : u2.heap.SetOf (intKind prog w) S (fun z => ns.contains z) n := SetOf.keep hS1 fun o e _ => k2.keep _ _ e
  refine ⟨ok2.K B, ?_⟩
  have Slt : (S : Nat) < u1.heap.objs.size := Heap.lt_size hso
  refine ffMake_spec B (k := k + 1) ok2 (k2.list (k1.list (hp.list hl))) fun x it u3 h1 h2 ne p3 i3 j3 => ?_
  have Ll := ns_lt hns
  have g1 : s.heap.objs.size ≤ bm := by have b3 : (bm : Nat) < u2.heap.objs.size := Heap.lt_size b2; omega
  have g2 : s.heap.objs.size ≤ it := by have b3 : (bm : Nat) < u2.heap.objs.size := Heap.lt_size b2; omega
  have g3 : s.heap.objs.size ≤ x := by have b3 : (bm : Nat) < u2.heap.objs.size := Heap.lt_size b2; omega
  refine hQ x it u3 g2 g3 ne (((hp.kept k1).kept k2).trans p3) ⟨bm, S, n, _, j3, p3.ext.get b2 (fun f => f) (by nofun), rfl, rfl, SetOf.keep hS2 fun o e nd => p3.ext.get e (fun f => f) nd, i3⟩
end
end Kk
end

/-! ### W10 -/
section
open PySem PySem.W PySem.Calls PyProof.Rows PySem.Spec
set_option maxRecDepth 100000
set_option maxHeartbeats 8000000
namespace Kk
section
variable {prog : Program} {w : World} {H : Heap} {mg mb : Str → Option Value} {A : Around} {s : Shared} {k : Nat} {env : Env} {m : Str → Option Value}

theorem special_list_item {it l : Nat} {i : Nat} {items : Array Value} {x : Value} {E : Value → Shared → Prop} {Q : Option Value → Shared → Prop} (hit : s.heap.IsListIter it l i)
    (hl : s.heap.IsList l items) (hx : items[i]? = some x)
    (hQ : ∀ u, Chg it s u → u.heap.IsListIter it l (i + 1) → Q (some x) u) :
    wpAny (model prog w) A (callSpecial? (.ref it) (Str.ofString "__next__")) Q E s := by
  obtain ⟨o, ho, hc, hd⟩ := id hit
  obtain ⟨ol, hol, _, nl, hdl⟩ := hl
  refine (wpAny_callSpecial?_slot (name := Str.ofString "__next__") hit.typeIs PySem.slot_listiter_next
    (wpAny_call_entry PySem.slot_listiter_next hit.typeIs PySem.entry_listiter_next ?_ (PySem.args_listiter_next _)))
  show wpAny _ _ (field (.ref it) 0 >>= _) _ _ s
  refine wpAny_bind (wpAny_field ho hd (x := .ref l) rfl ?_)
  show wpAny _ _ (if (Value.ref l == Value.none) = true then _ else _) _ _ s
  rw [if_neg (show ¬ ((Value.ref l == Value.none) = true) from Bool.false_ne_true)]
  show wpAny _ _ (field (.ref it) 1 >>= _) _ _ s
  refine wpAny_bind (wpAny_field ho hd (x := .int i 0) rfl ?_)
  show wpAny _ _ (seqItems? (.ref l) >>= _) _ _ s
  refine wpAny_bind (wpAny_seqItems hol hdl ?_)
  simp only [Int.toNat_natCast, hx]
  refine wpAny_bind (wpAny_setField ho hd (by simp) (wpAny_pure ⟨x, rfl, (hQ { s with heap := _ } ⟨Heap.SameBut.update .., rfl, rfl, rfl⟩ ?_)⟩))
  exact ⟨_, Heap.get?_update_self _ ho (Obj.isFreed_of_fields (Obj.data_mapFields hd _)), (Obj.cls_mapFields ..).trans hc, by
    rw [Obj.data_mapFields hd]; simp [rawInt]⟩

noncomputable def StopAt (h : Heap) (e : Nat) : Prop := ∃ o vs a0, h.get? e = some o ∧ o.cls = .type "StopIteration" ∧ o.data = .fields vs ∧ vs[1]? = some .none ∧ vs[0]? = some a0
theorem special_list_end {it l : Nat} {i : Nat} {items : Array Value} {E : Value → Shared → Prop} {Q : Option Value → Shared → Prop} (hh : A.handled = none)
    (hit : s.heap.IsListIter it l i) (hl : s.heap.IsList l items) (hx : items[i]? = none)
    (hE : ∀ (e : Nat) u, But it s u → s.heap.objs.size ≤ e → StopAt u.heap e → E (.ref e) u) :
    wpAny (model prog w) A (callSpecial? (.ref it) (Str.ofString "__next__")) Q E s := by
  obtain ⟨o, ho, hc, hd⟩ := id hit
  obtain ⟨ol, hol, _, nl, hdl⟩ := hl
  refine (wpAny_callSpecial?_slot (name := Str.ofString "__next__") hit.typeIs PySem.slot_listiter_next
    (wpAny_call_entry PySem.slot_listiter_next hit.typeIs PySem.entry_listiter_next ?_ (PySem.args_listiter_next _)))
  show wpAny _ _ (field (.ref it) 0 >>= _) _ _ s
  refine wpAny_bind (wpAny_field ho hd (x := .ref l) rfl ?_)
  show wpAny _ _ (if (Value.ref l == Value.none) = true then _ else _) _ _ s
  rw [if_neg (show ¬ ((Value.ref l == Value.none) = true) from Bool.false_ne_true)]
  show wpAny _ _ (field (.ref it) 1 >>= _) _ _ s
  refine wpAny_bind (wpAny_field ho hd (x := .int i 0) rfl ?_)
  show wpAny _ _ (seqItems? (.ref l) >>= _) _ _ s
  refine wpAny_bind (wpAny_seqItems hol hdl ?_)
  simp only [Int.toNat_natCast, hx]
  refine wpAny_bind (wpAny_rule (wpAny_bind (wpAny_setField ho hd (by simp) ?_)))
  show wpAny _ _ (newExc (.type "StopIteration") [] >>= _) _ _ _
  refine wpAny_bind ?_
  simp only [newExc, newTuple]
  refine wpAny_bind (wpAny_newObj_type ?_ (by size_fits))
  refine wpAny_bind (m := firstArgMember _ _) (wpAny_of_eq (a := Value.none) (by first | rfl | (simp only [firstArgMember]; rfl)) ?_)
  refine wpAny_newObj_type ?_ (by size_fits)
  simp only [raiseNew]
  refine wpAny_bind (wpAny_handled ?_)
  first | rw [show A.in1.handled = none from hh] | rw [hh]
  refine wpAny_bind (wpAny_pure (wpAny_throw ?_))
  refine hE _ { s with heap := _ } ⟨((Heap.SameBut.update ..).extBut.push _).push _, rfl, rfl, rfl⟩ ?_ ⟨_, _, _, Heap.get?_push_size _ rfl, rfl, rfl, rfl, rfl⟩
  rw [Heap.size_push]
  show s.heap.objs.size ≤ (s.heap.update it _).objs.size + 1
  have e := (Heap.SameBut.update (h := s.heap) it (Obj.mapFields (·.setIfInBounds 0 Value.none))).1
  show s.heap.objs.size ≤ _ + 1
  omega
theorem rNextItem {it l : Nat} {i : Nat} {items : Array Value} {x : Value} {E : Value → Shared → Prop} {Q : Value → Shared → Prop} (hit : s.heap.IsListIter it l i)
    (hl : s.heap.IsList l items) (hx : items[i]? = some x)
    (hQ : ∀ u, Chg it s u → u.heap.IsListIter it l (i + 1) → Q x u) :
    wpAny (model prog w) A (call (.builtin "next") [.ref it]) Q E s := by
  refine call_function_entry (by decide +kernel) (by decide +kernel) kdk_entry_next (kdk_args_next _) ?_
  unfold Builtin.«next»
  refine wpAny_bind (m := someArgs "next" 1 2 _) (wpAny_of_eq (a := [Value.ref it]) (by first | rfl | kernel_rfl!) ?_)
  dsimp only
  refine wpAny_bind (wpAny_specialOf (name := Str.ofString "__next__") hit.typeIs PySem.slot_listiter_next.lookup ?_)
  refine wpAny_ite_split (fun hab => absurd hab (by decide)) (fun _ => ?_)
  refine wpAny_bind (special_list_item hit hl hx fun u c iu => ?_)
  exact wpAny_pure ⟨_, rfl, hQ u c iu⟩
theorem rNextEnd {it l : Nat} {i : Nat} {items : Array Value} {E : Value → Shared → Prop} {Q : Value → Shared → Prop} (hh : A.handled = none) (hit : s.heap.IsListIter it l i)
    (hl : s.heap.IsList l items) (hx : items[i]? = none)
    (hE : ∀ (e : Nat) u, But it s u → s.heap.objs.size ≤ e → StopAt u.heap e → E (.ref e) u) :
    wpAny (model prog w) A (call (.builtin "next") [.ref it]) Q E s := by
  refine call_function_entry (by decide +kernel) (by decide +kernel) kdk_entry_next (kdk_args_next _) ?_
  unfold Builtin.«next»
  refine wpAny_bind (m := someArgs "next" 1 2 _) (wpAny_of_eq (a := [Value.ref it]) (by first | rfl | kernel_rfl!) ?_)
  dsimp only
  refine wpAny_bind (wpAny_specialOf (name := Str.ofString "__next__") hit.typeIs PySem.slot_listiter_next.lookup ?_)
  refine wpAny_ite_split (fun hab => absurd hab (by decide)) (fun _ => ?_)
  exact wpAny_bind (special_list_end hh hit hl hx hE)

theorem funFrames_of {h base : Heap} : ∀ {l : List Env} {n₀ : Nat}, Frs n₀ h l → (∀ env ∈ l, ∀ L, env.frame = some L → base.get? L = none) → h.FunFrames base l
  | [], _, _, _ => trivial
  | env :: l, n₀, f, b => by
    obtain ⟨hk, L, hf, hL, o, es, ep, ho, hd⟩ := f env (.head _)
    exact ⟨hk, ⟨L, o, hf, b env (.head _) L hf, ho, by rw [hd]; nofun⟩, funFrames_of (fun e he => f e (.tail _ he)) fun e he => b e (.tail _ he)⟩

/-- leaving a frame by a StopIteration -/
theorem leaveStop {outer : List Env} {L e : Nat} {Q : Unit → Shared → Prop} {E : Value → Shared → Prop} (hfr : A.frames = some (env :: outer)) (hf : env.frame = some L) (o : Ok H A s.heap k) (he : StopAt s.heap e)
    (hQ : ∀ u, Past H.objs.size (· = e) s u → (∃ ob, u.heap.get? e = some ob ∧ ob.cls = .type "StopIteration") → Q () u) : wpAny (model prog w) A (leaving env (.ref e)) Q E s := by
  obtain ⟨l, hl, ne, fr⟩ := o.frames
  rw [hfr] at hl
  cases hl
  obtain ⟨oe, vs, a0, g1, g2, g3, g4, g5⟩ := he
  have hb : ∀ b ∈ e :: (env :: outer).filterMap (·.frame), (hideAll s.heap (e :: (env :: outer).filterMap (·.frame))).get? b = none := fun b hb => hideAll_none _ hb
  have st : (hideAll s.heap (e :: (env :: outer).filterMap (·.frame))).StaysIn s.heap := fun b o q => of_hideAll _ q
  have ff : s.heap.FunFrames (hideAll s.heap (e :: (env :: outer).filterMap (·.frame))) (env :: outer) := funFrames_of fr fun env' he' L' hL' => hb L' (List.mem_cons_of_mem _ (List.mem_filterMap.mpr ⟨env', he', hL'⟩))
  refine wpAny_leaving_firstW (a0 := a0) hfr ff hf g1 st (hb e (.head _)) g3 g4 g5 fun h' hLft => ?_
  obtain ⟨k1, k2, k3, k4⟩ := hLft
  refine hQ { s with heap := h' } ⟨fun b o q nd => ?_, rfl, rfl, rfl⟩ ?_
  · by_cases hm : b ∈ (env :: outer).filterMap (·.frame)
    · obtain ⟨env', he', hf'⟩ := List.mem_filterMap.mp hm
      obtain ⟨hk, L', hL', hn, ob, es, ep, ho, hd⟩ := fr env' he'
      rw [hL'] at hf'
      cases hf'
      rw [ho] at q; cases q
      obtain ⟨sl, r⟩ := k4 _ _ ho (by rw [hd]; nofun)
      exact .inr ⟨hn, ⟨es, ep, hd⟩, sl, r⟩
    · exact .inl (k1 b o (hideAll_get _ q fun hc => by
        rcases List.mem_cons.mp hc with rfl | hc
        · exact nd rfl
        · exact hm hc))
  · obtain ⟨oe', vs', T, oT, ts, r1, ⟨r2, r3⟩, _⟩ := k3
    exact ⟨oe', r1, r2.trans g2⟩
end
end Kk
end

/-! ### W11 -/
section
open PySem PySem.W PySem.Calls PyProof.Rows PySem.Spec
set_option maxRecDepth 100000
set_option maxHeartbeats 8000000
namespace Kk
section
variable {n₀ : Nat} {D D' : Addr → Prop} {s t u : Shared} {H : Heap} {A : Around} {k : Nat}
theorem Past.comp (p : Past n₀ D s t) (q : Past n₀ D' t u) (h : ∀ b, D' b → D b ∨ s.heap.objs.size ≤ b) : Past n₀ D s u := by
  refine ⟨fun b o e nd => ?_, q.gens.trans p.gens, q.drawn.trans p.drawn, q.os.trans p.os⟩
  have nb : ¬ D' b := fun hd => (h b hd).elim nd fun hs => Nat.lt_irrefl _ (Nat.lt_of_lt_of_le (Heap.lt_size e) hs)
  rcases p.ext b o e nd with e1 | ⟨hb, hd, sl, e1⟩
  · exact q.ext b o e1 nb
  · rcases q.ext b _ e1 nb with e2 | ⟨_, _, sl2, e2⟩
    · exact .inr ⟨hb, hd, sl, e2⟩
    · exact .inr ⟨hb, hd, sl2, e2⟩
theorem Ok.one {a : Nat} (o : Ok H A t.heap k) (x : Past H.objs.size (· = a) t u) (ha : H.objs.size ≤ a) (hd : ∀ ob, t.heap.get? a = some ob → ∀ es ep, ob.data ≠ .dict es ep) : Ok H A u.heap k :=
  ⟨fun b ob e => x.ext.old (o.old b ob e) (by rintro rfl; exact Nat.lt_irrefl _ (Nat.lt_of_lt_of_le (Heap.lt_size e) ha)) (Heap.lt_size e), o.depth, o.units, o.handled,
   let ⟨l, hl, ne, f⟩ := o.frames
   ⟨l, hl, ne, fun env he => by
     obtain ⟨hk, L, hf, hL, ob, es, ep, ho, hdd⟩ := f env he
     refine ⟨hk, L, hf, hL, ?_⟩
     rcases x.ext L ob ho (by rintro rfl; exact hd ob ho _ _ hdd) with e1 | ⟨_, _, sl, e1⟩
     · exact ⟨ob, es, ep, e1, hdd⟩
     · exact ⟨_, es, ep, e1, hdd⟩⟩⟩
theorem Chg.one {a : Nat} (c : Chg a t u) : Past n₀ (· = a) t u := ⟨(Ext.refl (n₀ := n₀) (D := (· = a))).turn c.same (.inr rfl), c.gens, c.drawn, c.os⟩
theorem But.one {a : Nat} (c : But a t u) : Past n₀ (· = a) t u := ⟨(Ext.refl (n₀ := n₀) (D := (· = a))).but c.keep (.inr rfl), c.gens, c.drawn, c.os⟩
end
section
variable {prog : Program} {w : World} {H : Heap} {mg mb : Str → Option Value} {A : Around} {s : Shared} {k : Nat} {env : Env} {m : Str → Option Value}

/-- a def without cells, that may raise -/
theorem callFnE {f : Addr} {fd : FuncData} {body : List Stmt} {args : List Value} {binds : List (Str × Value)} {Q : Value → Shared → Prop} {E : Value → Shared → Prop} {oc : Value} {od : Option Addr} {sl : Array (Option Value)} (B : Base w H mg mb) (o : Ok H A s.heap (k + 1))
    (hf : (KF w.params).lookup f = some ⟨oc, od, .func fd, sl⟩) (hcd : codeIn (KF w.params) fd.code fd.qualname = true) (hbody : fd.body = .stmts body) (hbind : bindArgs fd ⟨args, []⟩ = pure binds)
    (hcell : ∀ x ∈ fd.scope.names, x.2 ≠ .cell) (hloc : ∀ x ∈ binds, fd.scope.names.lookup x.1 = some .local)
    (h : ∀ (L : Nat) st, L = s.heap.objs.size → st.heap.Ns L (fun x => binds.reverse.lookup x) → Past H.objs.size Dn s st → Ok H (A.deeper (callEnv fd L f)) st.heap k → (∃ outer, (A.deeper (callEnv fd L f)).frames = some (callEnv fd L f :: outer)) →
      wpAny (model prog w) (A.deeper (callEnv fd L f)) (execs body (callEnv fd L f)) (fun fl s' => Q (match fl with | .ret v => v | _ => .none) s')
        (fun e s' => wpAny (model prog w) (A.deeper (callEnv fd L f)) (leaving (callEnv fd L f) e) (fun _ u => E e u) (fun e' u => E e' u) s') st)
    (hco : fd.scope.isCoroutine = false := by rfl) (hgen : fd.scope.isGenerator = false := by rfl) (hk : fd.scope.kind = .function := by rfl) : wpAny (model prog w) A (call (.ref f) args) Q E s := by
  refine wpAny_call (codeAny_call_def (fd := fd) (body := body) (binds := binds) (by have := o.depth; omega) (o.K B _ _ hf) rfl (o.nolimit B) (codeRec_of (o.K B) hcd) hbody (BindsTo.of_eq hbind) hcell hloc (fun h₁ hns hk₁ => ?_) hco hgen hk)
  have hx : Ext H.objs.size Dn s.heap h₁ := .of_keeps hk₁
  have o1 := o.ext hx Dok.nil
  obtain ⟨l, hl, _, fr⟩ := o1.frames
  refine h _ _ rfl hns (Past.refl.to hx) ⟨o1.old, by have := o1.depth; show A.depth + 1 + k < _; omega, by have := o1.units; show A.units + 3 + 20 * k < _; omega, o1.handled, ?_⟩ ⟨l, by show A.frames.map _ = _; rw [hl]; rfl⟩
  refine ⟨_ :: l, by show A.frames.map _ = _; rw [hl]; rfl, List.cons_ne_nil _ _, fun env he => ?_⟩
  rcases List.mem_cons.mp he with rfl | he
  · obtain ⟨ob, es, ep, e1, e2, _⟩ := hns
    exact ⟨by show fd.scope.kind ≠ _; rw [hk]; nofun, _, rfl, o.size, ob, es, ep, e1, e2⟩
  · exact fr env he
theorem cBuiltE {x : Str} {fp pos : Pos} {args : List Expr} {id : String} {t : Bool × Sem Value} {ts : List (Bool × Sem Value)} {Q : Value → Shared → Prop} {E : Value → Shared → Prop} (B : Base w H mg mb) (o : Ok H A s.heap k)
    (e : nsIn (KF w.params) mainGlobals x = some none) (hv : bootBuiltins x = some (.builtin id))
    (ht : backTo pos (starEach args env) = t :: ts) (h0 : (t :: ts).any (·.1) = false)
    (h : wpAny (model prog w) A (spliced (t :: ts)) (fun vs u => wpAny (model prog w) A (call (.builtin id) vs) Q E u) E s)
    (hn : x ≠ "__name__" := by decide) (hg : env.globals = mainGlobals := by rfl) (hb : env.builtins = builtinsNs := by rfl) (hk : env.scope.kind = .function := by rfl) (hx : env.kindOf x = some .globalImplicit := by rfl) (hd : (x == ("__debug__" : Str)) = false := by decide) :
    wpAny (model prog w) A (eval (.Call (.Name x fp) args [] pos) env) Q E s := by
  refine wpAny_Call_NameR (Wp.any (eBuilt B o e hv ?_ hn hg hb hk hx hd))
  rw [ht]
  obtain ⟨b, tr⟩ := t
  have hb : b = false := by simp only [List.any_cons, Bool.or_eq_false_iff] at h0; exact h0.1
  subst hb
  exact callWith_builtin h0 (evalArgs_plain h)
/-- f(arg) of a bound built-in in a local name -/
theorem cBound {f : Str} {fp pos : Pos} {arg : Expr} {bm : Nat} {ob : Obj} {tr : Sem Value} {Q : Value → Shared → Prop} {vs : Array Value} (hn : s.heap.Ns env.locals m) (hv : m f = some (.ref bm))
    (ht : backTo pos (starEach [arg] env) = [(false, tr)])
    (h : Wp prog w A tr (fun v u => (u.heap.get? bm = some ob ∧ ob.cls = .type "builtin_function_or_method" ∧ ob.data = .fields vs) ∧ Wp prog w A (call (.ref bm) [v]) Q u) s)
    (hk : env.scope.kind = .function := by rfl) (hl : env.kindOf f = some .local := by rfl) (hd : (f == ("__debug__" : Str)) = false := by decide) : Wp prog w A (eval (.Call (.Name f fp) [arg] [] pos) env) Q s := by
  refine wpAny_Call_NameR (eLocal hn hv ?_ hk hl hd)
  rw [ht]
  refine callWith_of (P := fun h => h.get? bm = some ob ∧ ob.cls = .type "builtin_function_or_method" ∧ ob.data = .fields vs) rfl (fun h hp => ⟨.machine, .inr (.inl rfl), (Looks.ld (part := none) hp.1).andThen ?_⟩) (evalArgs_plain (sCons (h.mono fun v u hu => sNil hu)))
  rw [hp.2.2, hp.2.1]
  exact .now
end
end Kk
end

/-! ### W12 -/
section
open PySem PySem.W PySem.Calls PyProof.Rows PySem.Spec
set_option maxRecDepth 100000
set_option maxHeartbeats 8000000
namespace Kk
section
variable {prog : Program} {w : World} {H : Heap} {mg mb : Str → Option Value} {A : Around} {s : Shared} {k : Nat} {env : Env} {m : Str → Option Value}

theorem Inst.one {n₀ a x C : Nat} {t u : Shared} {sl : Array (Option Value)} (i : Inst t.heap x C sl) (p : Past n₀ (· = a) t u) (ne : x ≠ a) (hd : ∀ ob, t.heap.get? a = some ob → ∀ es ep, ob.data ≠ .dict es ep) : Inst u.heap x C sl :=
  i.ext p.ext ne fun b o es ep e q => by rintro rfl; exact hd o e _ _ q
theorem isListIter_nd {h : Heap} {it l i : Nat} (x : h.IsListIter it l i) : ∀ ob, h.get? it = some ob → ∀ es ep, ob.data ≠ .dict es ep := by
  obtain ⟨o, e, _, hd⟩ := x
  intro ob e2
  rw [e] at e2; cases e2
  rw [hd]; nofun
noncomputable def DifAt (prog : Program) (w : World) (h : Heap) (x it one i : Nat) (ns : List Int) (bm S n : Nat) (ob : Obj) : Prop :=
  Inst h x 54 #[some (.ref bm), some (.ref it)] ∧ h.get? bm = some ob ∧ ob.cls = .type "builtin_function_or_method" ∧ ob.data = .fields #[.builtin "set.__contains__", .ref S] ∧
    h.SetOf (intKind prog w) S (fun z => ns.contains z) n ∧ h.IsListIter it one i
theorem DifAt.dif {h : Heap} {x it one i bm S n : Nat} {ns : List Int} {ob : Obj} (d : DifAt prog w h x it one i ns bm S n ob) : Dif prog w h x it one i ns := ⟨bm, S, n, ob, d⟩
/-- a step of the list iterator within it all -/
theorem DifAt.step {n₀ x it one i j bm S n : Nat} {ob : Obj} {t u : Shared} {ns : List Int} (d : DifAt prog w t.heap x it one i ns bm S n ob) (p : Past n₀ (· = it) t u) (iu : u.heap.IsListIter it one j) : DifAt prog w u.heap x it one j ns bm S n ob := by
  obtain ⟨d1, d2, d3, d4, d5, d6⟩ := d
  have hnd := isListIter_nd d6
  obtain ⟨io, ie, ic, idt⟩ := id d6
  refine ⟨d1.one p ?_ hnd, p.ext.get d2 ?_ (by rw [d4]; nofun), d3, d4, SetOf.keep d5 fun o e nd => p.ext.get e ?_ nd, iu⟩
  · rintro rfl
    obtain ⟨dx, od, e1, _⟩ := d1
    rw [ie] at e1; cases e1; revert ic; nofun
  · rintro rfl
    rw [ie] at d2; cases d2; rw [ic] at d3; revert d3; decide
  · rintro rfl
    obtain ⟨so, es, ep, tb, hso, ⟨x1, x2, x3⟩, x4, xr⟩ := id d5
    rw [ie] at hso; cases hso; rw [ic] at x1; revert x1; decide
theorem Dif.past {n₀ x it one i : Nat} {t u : Shared} {ns : List Int} (d : Dif prog w t.heap x it one i ns) (p : Past n₀ Dn t u) : Dif prog w u.heap x it one i ns := by
  obtain ⟨bm, S, n, ob, d1, d2, d3, d4, d5, d6⟩ := d
  exact ⟨bm, S, n, ob, d1.past p, p.ext.get d2 (fun f => f) (by rw [d4]; nofun), d3, d4, SetOf.keep d5 fun o e nd => p.ext.get e (fun f => f) nd, p.iter d6⟩
theorem Dif.kept {x it one i : Nat} {t u : Shared} {ns : List Int} (d : Dif prog w t.heap x it one i ns) (p : Kept t u) : Dif prog w u.heap x it one i ns := d.past (n₀ := 0) p.past
theorem execsE {st : Stmt} {rest : List Stmt} {Q : Flow → Shared → Prop} {E : Value → Shared → Prop} (h : wpAny (model prog w) A (exec st env) (Seq' (fun s' => wpAny (model prog w) A (execs rest env) Q E s') Q) E s) :
    wpAny (model prog w) A (execs (st :: rest) env) Q E s := wpAny_execs_cons (wpAny_mono h (fun f s' hf => by cases f <;> exact hf) fun _ _ x => x)
theorem execsN {st : Stmt} {rest : List Stmt} {Q : Flow → Shared → Prop} {E : Value → Shared → Prop} (h : Wp prog w A (exec st env) (Seq' (fun s' => wpAny (model prog w) A (execs rest env) Q E s') Q) s) :
    wpAny (model prog w) A (execs (st :: rest) env) Q E s := execsE h.any
/-- while with an exception's leaving -/
theorem whileE {test : Expr} {body : List Stmt} {pos : Pos} {Q : Flow → Shared → Prop} {E₁ : Value → Shared → Prop} {E₂ : Value → Shared → Prop} (I : Nat → Shared → Prop)
    (turn : ∀ n t, I n t → wpAny (model prog w) A (isTrue test env (eval test env)) (fun b u =>
      (b = true → wpAny (model prog w) A (execs body env) (Turn Q (fun v => ∃ n', n' < n ∧ I n' v)) (fun e s' => wpAny (model prog w) A (leaving env e) (fun _ v => E₁ e v) E₂ s') u) ∧
      (b = false → Q .next u)) (fun e s' => wpAny (model prog w) A (leaving env e) (fun _ v => E₁ e v) E₂ s') t)
    (n : Nat) (h : I n s) : wpAny (model prog w) A (exec (.While test body [] pos) env) Q (fun e s' => wpAny (model prog w) A (leaving env e) (fun _ v => E₁ e v) E₂ s') s := by
  have hE : PassesOwn (model prog w) A env (fun e s' => wpAny (model prog w) A (leaving env e) (fun _ v => E₁ e v) E₂ s') := PassesOwn.leaving
  refine wpAny_While (codeAny_whileLoop I (fun n t ht => ?_) n h)
  refine wpAny_passesOwn hE (wpAny_mono (turn n t ht) (fun b u hb => ?_) fun _ _ x => x)
  cases b with
  | true =>
    rw [if_pos rfl]
    refine wpAny_passesOwn hE (wpAny_mono (hb.1 rfl) (fun f v hf => ?_) fun _ _ x => x)
    cases f <;> exact hf
  | false =>
    rw [if_neg (by decide)]
    exact wpAny_execs_nil (hb.2 rfl)

theorem nextBody (B : Base w H mg mb) {s₀ : Shared} {x it one i L : Nat} {vs : List Value} {os ns : List Int} {Qf : Flow → Shared → Prop} {E₁ : Value → Shared → Prop} {E₂ : Value → Shared → Prop} {outer : List Env} (o : Ok H A s.heap (k + 3)) (d : Dif prog w s₀.heap x it one i ns) (hl : s₀.heap.IsList one vs.toArray)
    (hv : IntsAre vs os) (hi : i ≤ os.length) (hx : H.objs.size ≤ x) (hit : H.objs.size ≤ it) (p : Past H.objs.size Dn s₀ s) (hL : s₀.heap.objs.size ≤ L) (hz : H.objs.size ≤ s₀.heap.objs.size)
    (hns : s.heap.Ns L m) (m1 : m "self" = some (.ref x)) (he : env = callEnv fdFfNext L 50) (hfr : A.frames = some (env :: outer))
    (hStop : (os.drop i).filter (fun z => !ns.contains z) = [] → ∀ (e : Nat) u, Past H.objs.size (· = it) s₀ u → (∃ ob, u.heap.get? e = some ob ∧ ob.cls = .type "StopIteration") → E₁ (.ref e) u)
    (hSome : ∀ z t rest j u, (os.drop i).filter (fun z => !ns.contains z) = z :: rest → (os.drop (j + 1)).filter (fun z => !ns.contains z) = rest → Past H.objs.size (· = it) s₀ u → Dif prog w u.heap x it one (j + 1) ns → j < os.length → Qf (.ret (.int z t)) u) :
    ∀ body, fdFfNext.body = .stmts body → wpAny (model prog w) A (execs body env) Qf (fun e s' => wpAny (model prog w) A (leaving env e) (fun _ v => E₁ e v) E₂ s') s := by
  intro body hb
  cases hb
  subst he
  have d0 := d
  obtain ⟨bm, S, nS, ob, d1, d2, d3, d4, d5, d6⟩ := d
  have i1 := d1.past p
  obtain ⟨ox1, od1, I1, sl1, -, -⟩ := i1.at
  have itlt : (it : Nat) < s₀.heap.objs.size := isListIter_lt d6
  have Ll := ns_lt hns
  refine execsN (wpAny_Assign_Name (Attribute_any_ (eLocal hns m1 ?_)))
  refine rGetSlot (K := KF w.params) (C := 54) (p := 55) (i := 0) (o.K B) I1 (by kernel_rfl) (by kernel_rfl) (by kernel_rfl) (by kernel_rfl) (by kernel_rfl) (by kernel_rfl) (v := .ref bm) (by rw [sl1]; rfl) rfl fun u1 k1 e1 => ?_
  refine rStoreLoc (L := L) (k1.ns hns) (fun u2 c2 n2 => ?_) rfl rfl rfl
  have p2 := (p.kept k1).chg c2 hL
  have ok2 := (o.kept k1).chgNs c2 (by (clear Ll itlt hit hx hi; omega)) n2
  obtain ⟨m2, n2, a1, a2⟩ : ∃ m, u2.heap.Ns L m ∧ m "self" = some (.ref x) ∧ m "func" = some (.ref bm) := ⟨_, n2, m1, rfl⟩
  clear m1
  refine execsE (whileE (fun n t => ∃ j, i ≤ j ∧ j + n = os.length ∧ (os.drop j).filter (fun z => !ns.contains z) = (os.drop i).filter (fun z => !ns.contains z) ∧ Past H.objs.size (· = it) s₀ t ∧ (∃ m, t.heap.Ns L m ∧ m "self" = some (.ref x) ∧ m "func" = some (.ref bm)) ∧ t.heap.IsListIter it one j ∧ Ok H A t.heap (k + 3)) ?_ (os.length - i) ⟨i, Nat.le_refl _, by (clear Ll itlt hz hL hit hx; omega), rfl, p2.weak0, ⟨m2, n2, a1, a2⟩, ?_, ok2⟩)
  · intro n t ht
    obtain ⟨j, hij, hjn, hf, pt, ⟨m3, n3, b1, b2⟩, it3, ok3⟩ := ht
    refine wpAny_isTrue_value (wpAny_Constant_bool (wpAny_truthy_bool ⟨fun _ => ?_, fun q => by cases q⟩))
    have dt := (show DifAt prog w s₀.heap x it one i ns bm S nS ob from ⟨d1, d2, d3, d4, d5, d6⟩).step pt it3
    obtain ⟨f1, f2, f3, f4, f5, f6⟩ := id dt
    obtain ⟨ox3, od3, I3, sl3, -, -⟩ := f1.at
    refine execsE (wpAny_Assign_Name (cBuiltE B ok3 rfl PyProof.Rows.Boot.«next» rfl rfl (spliced_cons (Wp.any (Attribute_any_ (eLocal n3 b1 ?_))))))
    refine rGetSlot (K := KF w.params) (C := 54) (p := 56) (i := 1) (ok3.K B) I3 (by kernel_rfl) (by kernel_rfl) (by kernel_rfl) (by kernel_rfl) (by kernel_rfl) (by kernel_rfl) (v := .ref it) (by rw [sl3]; rfl) rfl fun u4 k4 e4 => spliced_nil ?_
    have l4 := k4.list (pt.ext.list hl (fun q => list_ne_iter hl d6 q))
    have it4 := k4.iter it3
    have p4 := pt.kept k4
    have ok4 := ok3.kept k4
    have n4 := k4.ns n3
    cases n with
    | zero =>
      have ej : j = os.length := by (clear hij Ll itlt hz hL hit hx hi; omega)
      subst ej
      refine rNextEnd ok4.handled it4 l4 (by simp [hv.length]) fun e u5 c5 he he2 => ?_
      have p5 := p4.trans c5.one
      have ok5 := ok4.butIter c5 hit it4
      have hse : s₀.heap.objs.size ≤ e := by have := ns_lt n4; (clear hjn hij Ll itlt hz hit hx hi; omega)
      refine leaveStop hfr rfl ok5 he2 fun v pv hob => hStop (by rw [← hf]; simp) e v (p5.comp pv fun b hb => .inr (by subst hb; exact hse)) hob
    | succ n =>
      have hj : j < os.length := by (clear hij Ll itlt hz hL hit hx hi; omega)
      obtain ⟨tk, hjv⟩ := ints_get' (i := j) hv (List.getElem?_eq_getElem hj)
      refine rNextItem it4 l4 (x := .int os[j] tk) (by simpa using hjv) fun u5 c5 it5 => ?_
      have p5 := p4.trans c5.one
      have ok5 := ok4.chgIter c5 hit it4
      refine (Wp.any (rStoreLoc (L := L) (c5.ns n4 (Nat.ne_of_gt (by (clear hjn hij Ll hz hit hx hi; omega)))) (fun u6 c6 n6 => ?_) rfl rfl rfl))
      have p6 := p5.chg c6 hL
      have ok6 := ok5.chgNs c6 (by (clear hjn hij Ll itlt hit hx hi; omega)) n6
      have it6 := c6.iter it5 (Nat.ne_of_lt (by (clear hjn hij Ll hz hit hx hi; omega)))
      obtain ⟨m6, n6, g1, g2, g3⟩ : ∃ m, u6.heap.Ns L m ∧ m "self" = some (.ref x) ∧ m "func" = some (.ref bm) ∧ m "item" = some (.int os[j] tk) := ⟨_, n6, b1, b2, rfl⟩
      have dt6 := (show DifAt prog w s₀.heap x it one i ns bm S nS ob from ⟨d1, d2, d3, d4, d5, d6⟩).step p6 it6
      obtain ⟨h1, h2, h3, h4, h5, h6⟩ := id dt6
      refine execsN (wpAny_If (wpAny_isTrue_BoolOp (wpAny_allTrue_Or_cons (wpAny_isTrue_Compare1 (eLocal n6 g2 (wpAny_Constant_none (PySem.is_none (wpAny_truthy_bool ?_))))))))
      rw [if_neg (show ¬ ((Value.ref bm == Value.none) = true) from Bool.false_ne_true)]
      refine wpAny_allTrue_Or_cons (wpAny_isTrue_Compare1 (eLocal n6 g2 (eBuilt B ok6 rfl PyProof.Rows.Boot.«bool» (wpAny_is_other rfl (by nofun) (wpAny_truthy_bool ?_)))))
      rw [if_neg (by decide)]
      refine wpAny_allTrue_Or_nil ?_
      rw [if_neg (by decide)]
      refine execs_cons (wpAny_If (wpAny_isTrue_Not (wpAny_isTrue_value (cBound (bm := bm) n6 g2 rfl (eLocal n6 g3 ⟨⟨h2, h3, h4⟩, ?_⟩)))))
      refine call_bound_contains h2 h3 h4 h5 (by simp [intKind, Value.isInt]) fun tk7 => wpAny_truthy_bool ?_
      have k7 : Kept u6 { u6 with toks := tk7 } := Kept.tok _
      generalize ({ u6 with toks := tk7 } : Shared) = u7 at k7 ⊢
      cases hc : ns.contains os[j] with
      | true =>
        rw [if_neg (by simp)]
        refine execs_nil (execs_nil (wpAny_execs_nil ⟨n, Nat.lt_succ_self _, j + 1, by (clear hjn Ll itlt hz hL hit hx hi; omega), by (clear hij Ll itlt hz hL hit hx hi; omega), ?_, p6.kept k7, ⟨m6, k7.ns n6, g1, g2⟩, k7.iter it6, ok6.kept k7⟩))
        rw [← hf, List.drop_eq_getElem_cons hj, List.filter_cons]
        simp only [hc, Bool.not_true, Bool.false_eq_true, if_false]
      | false =>
        rw [if_pos (by simp)]
        refine execs_cons (wpAny_Return_some (eLocal (k7.ns n6) g3 ?_))
        refine hSome _ _ ((os.drop (j + 1)).filter (fun z => !ns.contains z)) j u7 ?_ rfl (p6.kept k7) ((dt6.dif).kept k7) hj
        rw [← hf, List.drop_eq_getElem_cons hj, List.filter_cons]
        simp only [hc, Bool.not_false, if_true]
  · exact c2.iter (k1.iter (p.iter d6)) (Nat.ne_of_lt (by (clear Ll hz hit hx hi; omega)))
theorem next_spec (B : Base w H mg mb) {x it one i : Nat} {vs : List Value} {os ns : List Int} {Q : Option Value → Shared → Prop} (o : Ok H A s.heap (k + 4)) (d : Dif prog w s.heap x it one i ns) (hl : s.heap.IsList one vs.toArray)
    (hv : IntsAre vs os) (hi : i ≤ os.length) (hx : H.objs.size ≤ x) (hit : H.objs.size ≤ it)
    (hNone : (os.drop i).filter (fun z => !ns.contains z) = [] → ∀ u, Past H.objs.size (· = it) s u → Q none u)
    (hSome : ∀ z t rest j u, (os.drop i).filter (fun z => !ns.contains z) = z :: rest → (os.drop (j + 1)).filter (fun z => !ns.contains z) = rest → Past H.objs.size (· = it) s u → Dif prog w u.heap x it one (j + 1) ns → j < os.length → Q (some (.int z t)) u) :
    Wp prog w A (pyNext (.ref x)) Q s := by
  obtain ⟨ox, od, I, sl, -, -⟩ := (id d).choose_spec.choose_spec.choose_spec.choose_spec.1.at
  unfold pyNext
  refine wpAny_bind (wpAny_attempt (special_fn (K := KF w.params) (C := 54) (f := 50) (name := "__next__") (args := []) (o.K B) I (by kernel_rfl) (by kernel_rfl) ?_))
  refine callFnE B (k := k + 3) o (f := 50) (fd := fdFfNext) (binds := [("self", .ref x)]) rfl rfl rfl rfl (by decide) (by
    intro x hx
    simp only [List.mem_cons, List.not_mem_nil, or_false] at hx
    rcases hx with rfl <;> rfl) fun L st hL hns0 hp ok hfr => ?_
  obtain ⟨m, hns, m1⟩ : ∃ m, st.heap.Ns L m ∧ m "self" = some (.ref x) := ⟨_, hns0, rfl⟩
  clear hns0
  generalize hA1 : A.deeper (callEnv fdFfNext L 50) = A1 at ok hfr ⊢
  obtain ⟨outer, hfr⟩ := hfr
  refine nextBody B (k := k) (s₀ := s) ok d hl hv hi hx hit hp (Nat.le_of_eq hL.symm) o.size hns m1 rfl hfr (fun hfil e u pu hob => ?_) (fun z t rest j u h1 h2 h3 h4 h5 => ?_) _ rfl
  · obtain ⟨ob, e1, e2⟩ := hob
    show wpAny _ _ (isInstance (.ref e) (.type "StopIteration") >>= _) _ _ _
    refine wpAny_bind (wpAny_isInstance (U := "StopIteration") (b := true) (T := "StopIteration") ⟨_, e1, e2⟩ (by rw [isSubtype_type]; kernel_rfl) ?_)
    exact wpAny_pure (hNone hfil u pu)
  · exact wpAny_pure (hSome z t rest j u h1 h2 h3 h4 h5)
end
end Kk
end

/-! ### W13 -/
section
open PySem PySem.W PySem.Calls PyProof.Rows PySem.Spec
set_option maxRecDepth 100000
set_option maxHeartbeats 8000000
namespace Kk
section
variable {prog : Program} {w : World} {H : Heap} {mg mb : Str → Option Value} {A : Around} {s : Shared} {k : Nat} {env : Env} {m : Str → Option Value}

theorem Dif.chgL {a x it one i : Nat} {t u : Shared} {ns : List Int} {xs : Array Value} (d : Dif prog w t.heap x it one i ns) (c : Chg a t u) (hl : t.heap.IsList a xs) : Dif prog w u.heap x it one i ns := by
  obtain ⟨bm, S, n, ob, d1, d2, d3, d4, d5, d6⟩ := d
  obtain ⟨lo, le, lc, ln, ld⟩ := id hl
  have nit : it ≠ a := fun q => list_ne_iter hl d6 q.symm
  refine ⟨bm, S, n, ob, d1.chgNd c ?_ ⟨lo, le, by rw [ld]; nofun⟩, (c.same.2 _ ?_).trans d2, d3, d4, SetOf.keep d5 fun o e _ => (c.same.2 _ ?_).trans e, c.iter d6 nit⟩
  · rintro rfl
    obtain ⟨dx, od, e1, _⟩ := d1
    rw [le] at e1; cases e1; cases ld
  · rintro rfl
    rw [le] at d2; cases d2; rw [lc] at d3; revert d3; decide
  · rintro rfl
    obtain ⟨so, es, ep, tb, hso, ⟨x1, x2, x3⟩, x4, xr⟩ := id d5
    rw [le] at hso; cases hso; rw [lc] at x1; revert x1; decide
/-- iter(x) of an object whose __iter__ is a def of the text's -/
theorem own_iter {K : Frag} {x C f : Addr} {ox : Obj} {od : Option Obj} {g : Value} {Q : Value → Shared → Prop} (X : K.In s.heap) (I : InstAt s.heap x ox C od) (hs : findIn K (.ref C) "__iter__" = some (some (.ref f))) (hf : isFn K (.ref f) = true)
    (h : Wp prog w A (call (.ref f) [.ref x]) (fun v u => v = .ref x ∧ K.In u.heap ∧ (∃ ox' od', InstAt u.heap x ox' C od') ∧ Q (.ref x) u) s) (hn : findIn K (.ref C) "__next__" = some (some g)) : Wp prog w A (pyIter (.ref x)) Q s := by
  have fin : Wp prog w A (call (.ref f) [.ref x] >>= fun v => pure (some v)) (fun r u => r = some (.ref x) ∧ K.In u.heap ∧ (∃ ox' od', InstAt u.heap x ox' C od') ∧ Q (.ref x) u) s :=
    wpAny_bind (wpAny_mono h (fun v s' h' => wpAny_pure ⟨by rw [h'.1], h'.2⟩) fun _ _ z => z)
  have one : ∀ refuse : Sem Value, Wp prog w A (callSpecialIfBoundUnlessNone? (.ref x) "__iter__" refuse) (fun r u => r = some (.ref x) ∧ K.In u.heap ∧ (∃ ox' od', InstAt u.heap x ox' C od') ∧ Q (.ref x) u) s := by
    intro refuse
    simp only [callSpecialIfBoundUnlessNone?, bindSpecialIfBound?]
    refine wpAny_holding (wpAny_bind (wpAny_bind (wpAny_bind (I.type.here ((looks_findIn X hs).here ?_)))))
    refine wpAny_bind (wpAny_askSetting (wpAny_ite ?_))
    have fin2 : Wp prog w A (if (Value.ref f == Value.none) = true then (refuse >>= fun v => pure (some v)) else (call (.ref f) [.ref x] >>= fun v => pure (some v))) (fun r u => r = some (.ref x) ∧ K.In u.heap ∧ (∃ ox' od', InstAt u.heap x ox' C od') ∧ Q (.ref x) u) s := by
      rw [if_neg (show ¬ ((Value.ref f == Value.none) = true) from Bool.false_ne_true)]
      exact fin
    split
    · exact wpAny_bind ((bind_fn X _ (beq_iff_eq.mp hf)).here (wpAny_pure (by exact fin2)))
    · exact wpAny_tryCatch (wpAny_bind ((bind_fn X _ (beq_iff_eq.mp hf)).here (wpAny_pure (by exact fin2))))
  unfold pyIter
  refine wpAny_bind (wpAny_bind (I.type.here ((looks_findIn X hs).here ?_)))
  show wpAny _ A (callSpecialIfBoundUnlessNone? (.ref x) "__iter__" _ >>= _) Q _ s
  refine wpAny_bind (wpAny_mono (one _) (fun r s' hr => ?_) fun _ _ z => z)
  obtain ⟨rfl, X', ⟨ox', od', I'⟩, hv⟩ := hr
  show wpAny _ A (specialOf (.ref x) "__next__" >>= _) Q _ s'
  exact wpAny_bind (wpAny_bind (I'.type.here ((looks_findIn X' hn).here (wpAny_pure hv))))
theorem ffIter_spec (B : Base w H mg mb) {x : Nat} {Q : Value → Shared → Prop} (o : Ok H A s.heap (k + 2)) (hQ : ∀ u, Past H.objs.size Dn s u → Q (.ref x) u) : Wp prog w A (call (.ref 43) [.ref x]) Q s := by
  refine callFn B (k := k + 1) o (f := 43) (fd := fdFfIter) (binds := [("self", .ref x)]) rfl rfl rfl rfl (by decide) (by
    intro x hx
    simp only [List.mem_cons, List.not_mem_nil, or_false] at hx
    rcases hx with rfl <;> rfl) fun L st hL hns0 hp ok => ?_
  obtain ⟨m, hns, m1⟩ : ∃ m, st.heap.Ns L m ∧ m "self" = some (.ref x) := ⟨_, hns0, rfl⟩
  exact execs_cons (wpAny_Return_some (eLocal hns m1 (hQ st hp)))

noncomputable abbrev listObj (xs : Array Value) (c : Nat) : Obj := { cls := .type "list", dict := none, data := .seq xs c, slots := #[] }
theorem extend_ff (B : Base w H mg mb) {x it one S : Nat} {vs : List Value} {os ns : List Int} {R : Result → Shared → Prop} (hv : IntsAre vs os) (hx : H.objs.size ≤ x) (hit : H.objs.size ≤ it) (hS : H.objs.size ≤ S) (hne : one ≠ S) : ∀ (rest : List Int) {i : Nat} {s : Shared} {accs : List Value} {done : List Int} {c : Nat},
    Ok H A s.heap (k + 5) → Dif prog w s.heap x it one i ns → s.heap.IsList one vs.toArray → i ≤ os.length → (os.drop i).filter (fun z => !ns.contains z) = rest → s.heap.get? S = some (listObj accs.toArray c) → IntsAre accs done → accs.length + rest.length ≤ 1000 →
    (∀ u accs' c', Past H.objs.size (fun b => b = it ∨ b = S) s u → u.heap.get? S = some (listObj accs'.toArray c') → IntsAre accs' (done ++ rest) → R (.ok (.ret .none)) u) →
    codeAny (model prog w) A (.builtin "list.extend.loop" ⟨[.ref S, .ref x, .none], []⟩) R s := by
  intro rest
  induction rest with
  | nil =>
    intro i s accs done c o d hl hi hf hSo ha hz hR
    refine codeAny_builtin PySem.F.entry_extend_loop ?_
    rw [Around.under_plainId PySem.F.plain_extend_loop _]
    show wpAny _ A.in1 (pyNext (.ref x) >>= _) _ _ s
    refine wpAny_bind (Wp.any (next_spec B (k := k) o.in1 d hl hv hi hx hit (fun _ u pu => ?_) (fun z t rest' j u h1 _ _ _ _ => ?_)))
    · have e := pu.ext.get hSo (by rintro rfl; exact list_ne_iter ⟨_, hSo, rfl, _, rfl⟩ d.choose_spec.choose_spec.choose_spec.choose_spec.2.2.2.2.2 rfl) (by nofun)
      exact wpAny_pure (hR u accs c (⟨pu.ext.weak fun b q _ => .inl q, pu.gens, pu.drawn, pu.os⟩) e (by simpa using ha))
    · rw [hf] at h1; cases h1
  | cons z rest ih =>
    intro i s accs done c o d hl hi hf hSo ha hz hR
    refine codeAny_builtin PySem.F.entry_extend_loop ?_
    rw [Around.under_plainId PySem.F.plain_extend_loop _]
    show wpAny _ A.in1 (pyNext (.ref x) >>= _) _ _ s
    have hSl : s.heap.IsList S accs.toArray := ⟨_, hSo, rfl, _, rfl⟩
    have dit := d.choose_spec.choose_spec.choose_spec.choose_spec.2.2.2.2.2
    have nS : S ≠ it := list_ne_iter hSl dit
    refine wpAny_bind (Wp.any (next_spec B (k := k) o.in1 d hl hv hi hx hit (fun h0 => ?_) (fun z' t rest' j u h1 h2 pu du hj => ?_)))
    · rw [hf] at h0; cases h0
    · rw [hf] at h1; cases h1
      have e := pu.ext.get hSo nS (by nofun)
      have l2 := pu.ext.list hl (list_ne_iter hl dit)
      have ok2 := o.one pu hit (isListIter_nd dit)
      show wpAny _ A.in1 (updateSeq S (·.push (.int z t)) >>= _) _ _ _
      have zz : accs.toArray.size ≤ sizeLine := by rw [List.size_toArray, sizeLine_eq]; (clear hj nS hi hne hS hit hx; omega)
      refine wpAny_bind (wpAny_updateSeq e rfl (wpAny_pure ⟨plainId_quiet PySem.F.plain_extend_loop _, ?_⟩) zz (by show (accs.toArray.push _).size ≤ sizeLine + 1; rw [Array.size_push]; (clear hj nS hz hi hne hS hit hx; omega)))
      obtain ⟨c', e3⟩ : ∃ c', ({ u with heap := u.heap.update S (Obj.mapSeq (·.push (Value.int z t))) } : Shared).heap.get? S = some (listObj (accs ++ [Value.int z t]).toArray c') := by
        have e3 := Heap.get?_update_self (Obj.mapSeq (·.push (Value.int z t))) e rfl
        have q : accs.toArray.push (Value.int z t) = (accs ++ [Value.int z t]).toArray := by simp
        rw [← q]
        exact ⟨_, e3⟩
      have c3 : Chg S u { u with heap := u.heap.update S (Obj.mapSeq (·.push (Value.int z t))) } := ⟨Heap.SameBut.update .., rfl, rfl, rfl⟩
      generalize ({ u with heap := u.heap.update S (Obj.mapSeq (·.push (Value.int z t))) } : Shared) = u3 at e3 c3 ⊢
      have lS : u.heap.IsList S accs.toArray := ⟨_, e, rfl, _, rfl⟩
      refine ih (i := j + 1) (ok2.chgList c3 hS lS) (du.chgL c3 lS) (c3.list l2 hne) hj h2 e3 (IntsAre.append ha (.cons _ _ .nil)) (by rw [List.length_append]; simp only [List.length_cons, List.length_nil] at hz ⊢; (clear zz hj nS hi hne hS hit hx; omega)) fun v accs' cc pv ev av => ?_
      refine hR v accs' cc ?_ ev (by simpa using av)
      have p1 : Past H.objs.size (fun b => b = it ∨ b = S) s u3 := ⟨(pu.ext.weak (D' := fun b => b = it ∨ b = S) fun b q _ => .inl q).turn c3.same (.inr (.inr rfl)), c3.gens.trans pu.gens, c3.drawn.trans pu.drawn, c3.os.trans pu.os⟩
      exact p1.trans pv
theorem Inst.chgL {a x C : Nat} {t u : Shared} {sl : Array (Option Value)} {xs : Array Value} (i : Inst t.heap x C sl) (c : Chg a t u) (hl : t.heap.IsList a xs) : Inst u.heap x C sl := by
  obtain ⟨lo, le, lc, ln, ld⟩ := id hl
  refine i.chgNd c ?_ ⟨lo, le, by rw [ld]; nofun⟩
  rintro rfl
  obtain ⟨dx, od, e1, _⟩ := i
  rw [le] at e1; cases e1; cases ld
/-- list(filterfalse(..)) -/
theorem list_ff (B : Base w H mg mb) {x it one : Nat} {vs : List Value} {os ns : List Int} {Q : Value → Shared → Prop} (o : Ok H A s.heap (k + 8)) (d : Dif prog w s.heap x it one 0 ns) (hl : s.heap.IsList one vs.toArray)
    (hv : IntsAre vs os) (hx : H.objs.size ≤ x) (hit : H.objs.size ≤ it) (hz : os.length ≤ 1000)
    (hQ : ∀ (a : Nat) u vs', s.heap.objs.size ≤ a → Past H.objs.size (· = it) s u → PL u.heap a vs'.toArray → IntsAre vs' (os.filter (fun z => !ns.contains z)) → Q (.ref a) u) : Wp prog w A (call (.type "list") [.ref x]) Q s := by
  refine callType_codes (Q₁ := fun obj s₁ => obj = .ref s.heap.objs.size ∧ s₁ = { s with heap := s.heap.push { cls := .type "list", data := .seq #[] } }) PySem.F.called_list (PySem.F.typeCall_list_1 _) PySem.F.entry_list_init
    (code_list_new _ ⟨rfl, rfl⟩) fun obj s₁ h₁ => ?_
  obtain ⟨rfl, rfl⟩ := h₁
  have hSz := o.size
  generalize hS0 : s.heap.objs.size = S at *
  have hS : (s.heap.push { cls := .type "list", data := .seq #[] }).get? S = some (listObj #[] 0) := by rw [← hS0]; exact Heap.get?_push_size _ rfl
  have k1 : Kept s { s with heap := s.heap.push { cls := .type "list", data := .seq #[] } } := Kept.push _
  generalize ({ s with heap := s.heap.push { cls := .type "list", data := .seq #[] } } : Shared) = s1, hs1 : ({ s with heap := s.heap.push { cls := .type "list", data := .seq #[] } } : Shared) = s1 at k1 ⊢
  have hS1 : s1.heap.get? S = some (listObj #[] 0) := by rw [← hs1]; exact hS
  clear hs1 hS
  refine ⟨⟨_, hS1, rfl⟩, PySem.F.args_list_init_2 _ _, ?_⟩
  show wpAny _ A.in1.in1 (do let old ← Builtin.List.listItems (.ref S); Builtin.List.listUpdate (.ref S) (fun _ => #[]); letGo old.toList.reverse; Builtin.List.listExtendWith (.ref S) (.ref x) .none) _ _ s1
  refine wpAny_bind ?_
  unfold Builtin.List.listItems
  refine wpAny_bind (wpAny_seqItems hS1 rfl (wpAny_pure ?_))
  show wpAny _ _ (updateSeq S (fun _ => #[]) >>= fun _ => letGo (#[] : Array Value).toList.reverse >>= fun _ => Builtin.List.listExtendWith (.ref S) (.ref x) .none) _ _ s1
  refine wpAny_bind (wpAny_updateSeq hS1 rfl ?_)
  obtain ⟨c2, hS2⟩ : ∃ c', ({ s1 with heap := s1.heap.update S (Obj.mapSeq (fun _ => (#[] : Array Value))) } : Shared).heap.get? S = some (listObj ([] : List Value).toArray c') := ⟨_, Heap.get?_update_self (Obj.mapSeq (fun _ => (#[] : Array Value))) hS1 rfl⟩
  have g2 : Chg S s1 { s1 with heap := s1.heap.update S (Obj.mapSeq (fun _ => (#[] : Array Value))) } := ⟨Heap.SameBut.update .., rfl, rfl, rfl⟩
  generalize ({ s1 with heap := s1.heap.update S (Obj.mapSeq (fun _ => (#[] : Array Value))) } : Shared) = s2 at hS2 g2 ⊢
  have lS1 : s1.heap.IsList S #[] := ⟨_, hS1, rfl, _, rfl⟩
  have ol : (one : Nat) < s.heap.objs.size := isList_lt hl
  have d2 := (d.kept k1).chgL g2 lS1
  have l2 := g2.list (k1.list hl) (Nat.ne_of_lt (by (clear hSz hz hit hx; omega)))
  have o2 := (o.kept k1).chgList g2 (by (clear ol hS0 hz hit hx; omega)) lS1
  have p2 : Past H.objs.size Dn s s2 := (Past.kept .refl k1).chg g2 (by (clear ol hSz hz hit hx; omega))
  refine wpAny_bind (wpAny_letGo ?_)
  unfold Builtin.List.listExtendWith
  obtain ⟨ox, od, I, sl, -, -⟩ := (id d2).choose_spec.choose_spec.choose_spec.choose_spec.1.at
  have xS : S ≠ x := by
    rintro rfl
    rw [I.at_] at hS2; cases hS2; exact absurd I.cls (by nofun)
  refine wpAny_bind (I.type.here ?_)
  have h1 : Builtin.List.listSameRef (.ref S) (.ref x) = false := by simp [Builtin.List.listSameRef, xS]
  have h2 : (Value.ref 54 == Value.type "list") = false := rfl
  have h3 : (Value.ref 54 == Value.type "tuple") = false := rfl
  simp only [h1, h2, h3, Bool.or_false, Bool.false_eq_true, if_false]
  refine wpAny_bind (Wp.any (own_iter (K := KF w.params) (C := 54) (f := 43) (g := .ref 50) (o2.K B) I (by kernel_rfl) (by kernel_rfl) (ffIter_spec B (k := k + 4) o2.in1.in1 fun u3 p3 => ?_) (by kernel_rfl)))
  have o3 := o2.past p3
  have d3 := d2.past p3
  have l3 := p3.list l2
  have hS3 := p3.ext.get hS2 (fun f => f) (by nofun)
  obtain ⟨ox3, od3, I3, sl3, -, -⟩ := (id d3).choose_spec.choose_spec.choose_spec.choose_spec.1.at
  refine ⟨rfl, o3.K B, ⟨ox3, _, I3⟩, ?_⟩
  refine wpAny_bind (wpAny_holding ?_)
  unfold Builtin.List.listLengthHint
  refine wpAny_bind (wpAny_bind (I3.type.here ((looks_findIn (K := KF w.params) (r := none) (o3.K B) (by kernel_rfl)).here ?_)))
  show wpAny _ A.in1.in1 (specialOf (Value.ref x) (Str.ofString "__length_hint__") >>= _) _ _ _
  refine wpAny_bind (wpAny_bind (I3.type.here ((looks_findIn (K := KF w.params) (r := none) (o3.K B) (by kernel_rfl)).here ?_)))
  refine wpAny_pure ?_
  show wpAny _ A.in1.in1 (rule "list.extend.makes-room" >>= fun _ => Builtin.List.listTouch (.ref S) >>= fun _ =>
    again (.builtin "list.extend.loop" ⟨[.ref S, .ref x, .none], []⟩)) _ _ _
  refine wpAny_bind (wpAny_rule ?_)
  refine wpAny_bind ?_
  show wpAny _ A.in1.in1 (updateSeq S (·.push .none) >>= fun _ => updateSeq S (·.pop)) _ _ _
  refine wpAny_bind (wpAny_updateSeq hS3 rfl ?_)
  have hS4 := Heap.get?_update_self (Obj.mapSeq (·.push Value.none)) hS3 rfl
  refine wpAny_updateSeq hS4 rfl ?_
  obtain ⟨c5, hS5⟩ : ∃ c', ({ u3 with heap := (u3.heap.update S (Obj.mapSeq (·.push Value.none))).update S (Obj.mapSeq (·.pop)) } : Shared).heap.get? S = some (listObj ([] : List Value).toArray c') := ⟨_, Heap.get?_update_self (Obj.mapSeq (·.pop)) hS4 rfl⟩
  have g5 : Chg S u3 { u3 with heap := (u3.heap.update S (Obj.mapSeq (·.push Value.none))).update S (Obj.mapSeq (·.pop)) } := ⟨Heap.SameBut.trans (Heap.SameBut.update ..) (Heap.SameBut.update ..), rfl, rfl, rfl⟩
  generalize ({ u3 with heap := (u3.heap.update S (Obj.mapSeq (·.push Value.none))).update S (Obj.mapSeq (·.pop)) } : Shared) = u5 at hS5 g5 ⊢
  have lS3 : u3.heap.IsList S ([] : List Value).toArray := ⟨_, hS3, rfl, _, rfl⟩
  have d5 := d3.chgL g5 lS3
  have l5 := g5.list l3 (Nat.ne_of_lt (by (clear xS hSz hz hit hx; omega)))
  have o5 := o3.chgList g5 (by (clear xS ol hS0 hz hit hx; omega)) lS3
  have p5 := (p2.trans p3).chg g5 (by (clear xS ol hSz hz hit hx; omega))
  refine wpAny_pure ⟨plainId_quiet PySem.F.plain_extend_loop _, extend_ff B (k := k) hv hx hit (by (clear xS ol hS0 hz hit hx; omega)) (Nat.ne_of_lt (by (clear xS hSz hz hit hx; omega))) _ (o5.in1.less (by (clear xS ol hSz hS0 hz hit hx; omega))) d5 l5 (Nat.zero_le _) rfl hS5 .nil ?_ fun u accs c pu eu au => ?_⟩
  · have := List.length_filter_le (fun z => !ns.contains z) (os.drop 0)
    simp only [List.drop_zero] at this ⊢
    simp only [List.length_nil]
    (clear xS ol hSz hS0 hit hx; omega)
  · refine ⟨rfl, hQ S u accs (Nat.le_refl _) ?_ ⟨_, c, eu, rfl, rfl, rfl⟩ (by simpa using au)⟩
    refine Past.comp p5.weak0 pu fun b hb => ?_
    rcases hb with rfl | rfl
    · exact .inl rfl
    · exact .inr (Nat.le_of_eq hS0)
end
end Kk
end

/-! ### W14 -/
section
open PySem PySem.W PySem.Calls PyProof.Rows PySem.Spec
set_option maxRecDepth 100000
set_option maxHeartbeats 8000000
namespace Kk
section
variable {prog : Program} {w : World} {H : Heap} {mg mb : Str → Option Value} {A : Around} {s : Shared} {k : Nat} {env : Env} {m : Str → Option Value}

theorem rItemNeg {value slice : Expr} {l : Nat} {items : Array Value} {u : Tok} {v : Value} {Q : Value → Shared → Prop} (hl : s.heap.IsList l items) (h1 : items.size ≤ 1000) (hv : items[items.size - 1]? = some v) (h : Q v s)
    (hs : subscripted slice false (.ref l) (.int (-1) u) = operate [.ref l, .int (-1) u] (getItem (.ref l) (.int (-1) u)) := by with_unfolding_all rfl) : Wp prog w A (subscriptTail value slice (.ref l) (.int (-1) u)) Q s := by
  have h0 : 0 < items.size := by
    rcases Nat.eq_zero_or_pos items.size with q | q
    · rw [Array.getElem?_eq_none (by (clear h1; omega))] at hv; cases hv
    · exact q
  exact tail_any hl.typeIs slot_list_getitem.lookup (wpAny_getItem_list_neg hl (by decide) (by (clear h1; omega)) (by decide) (by rw [show ((-1 : Int) + (items.size : Int)).toNat = items.size - 1 by (clear h0 h1; omega)]; exact hv) h) hs
theorem rNegOne {pos pos' : Pos} {Q : Value → Shared → Prop} (h : ∀ t u, Kept s u → u.heap = s.heap → Q (.int (-1) t) u) : Wp prog w A (eval (.UnaryOp .USub (.Constant (.int 1) 0 pos) pos') env) Q s :=
  UnaryOp_ (wpAny_Constant_int (PyProof.Rows.neg_int (h _ _ ((Kept.tok _).trans (Kept.tok _)) rfl)))
theorem ints_last {vs : List Value} {ns : List Int} (hi : IntsAre vs ns) {a : Int} (ha : ns.getLast? = some a) : ∃ t, vs.toArray[vs.toArray.size - 1]? = some (.int a t) := by
  rw [List.getLast?_eq_getElem?] at ha
  obtain ⟨t, h⟩ := ints_get' hi ha
  refine ⟨t, ?_⟩
  simpa [hi.length] using h
theorem compared_spec (B : Base w H mg mb) {one other pl : Nat} {vs ws qs : List Value} {os ns ps : List Int} {Q : Value → Shared → Prop} (o : Ok H A s.heap (k + 10)) (hl : s.heap.IsList one vs.toArray) (hm : s.heap.IsList other ws.toArray)
    (hv : IntsAre vs os) (hw : IntsAre ws ns) (hp : s.heap.IsList pl qs.toArray) (hq : IntsAre qs ps) (hz : os.length ≤ 1000) (hzn : ns.length ≤ 1000)
    {a b : Int} (ha : (os.filter (fun z => !ns.contains z)).getLast? = some a) (hb : (ns.filter (fun z => !os.contains z)).getLast? = some b) (a0 : 0 ≤ a) (b0 : 0 ≤ b) {x y : Int} (hx : ps[a.toNat]? = some x) (hy : ps[b.toNat]? = some y) (hps : ps.length ≤ 1000)
    (hQ : ∀ t u, Past H.objs.size Dn s u → Q (.int (x - y) t) u) : Wp prog w A (call (.ref 91) [.ref one, .ref other, .ref pl]) Q s := by
  refine callFn B (k := k + 9) o (f := 91) (fd := fdCompared) (binds := [("one", .ref one), ("other", .ref other), ("places", .ref pl)]) rfl rfl rfl rfl (by decide) (by
    intro x hx
    simp only [List.mem_cons, List.not_mem_nil, or_false] at hx
    rcases hx with rfl | rfl | rfl <;> rfl) fun L st hL hns0 hp1 ok => ?_
  obtain ⟨m, hns, m1, m2, m3⟩ : ∃ m, st.heap.Ns L m ∧ m "one" = some (.ref one) ∧ m "other" = some (.ref other) ∧ m "places" = some (.ref pl) := ⟨_, hns0, rfl, rfl, rfl⟩
  clear hns0
  generalize A.deeper (callEnv fdCompared L 91) = A1 at ok ⊢
  have hz0 := o.size
  have Ll := ns_lt hns
  refine execs_cons (wpAny_Assign_Name (cType B ok rfl PyProof.Rows.Boot.«list» rfl rfl (sCons (cFn B ok rfl (fd := fdDiff) rfl rfl rfl (sCons (eLocal hns m1 (sCons (eLocal hns m2 (sNil ⟨⟨_, ok⟩, ?_⟩)))))))))
  refine diff_spec B (k := k + 4) ok (hp1.list hl) (hp1.list hm) hw (by rw [hw.length]; exact hzn) fun x1 it1 u1 e1 e2 e3 p1 d1 => sNil ?_
  have ok1 := ok.past p1
  have q1 := hp1.trans p1
  refine list_ff B (k := k + 1) ok1 d1 (q1.list hl) hv (by (clear e3 e1 hps b0 a0 hzn hz; omega)) (by (clear e3 e2 hps b0 a0 hzn hz; omega)) hz fun a1 u2 vs1 e4 p2 l2 v2 => ?_
  have p12 : Past H.objs.size Dn st u2 := Past.fresh p1 p2 fun b hb => by subst hb; exact e1
  have ok2 := ok.past p12
  refine rStoreLoc (L := L) (p12.ns hns) (fun u3 c3 n3 => ?_) rfl rfl rfl
  have p3 := (hp1.trans p12).chg c3 (by (clear e4 e3 e2 e1 Ll hz0 hps b0 a0 hzn hz; omega))
  have ok3 := ok2.chgNs c3 (by (clear e4 e3 e2 e1 Ll hps b0 a0 hzn hz; omega)) n3
  have n2 := p12.ns hns
  have l3 := c3.pl l2 (list_ne_ns l2.list n2)
  obtain ⟨mm3, n3, b1, b2, b3, b4⟩ : ∃ m, u3.heap.Ns L m ∧ m "one" = some (.ref one) ∧ m "other" = some (.ref other) ∧ m "places" = some (.ref pl) ∧ m "mine" = some (.ref a1) := ⟨_, n3, m1, m2, m3, rfl⟩
  clear m1 m2 m3
  refine execs_cons (wpAny_Assign_Name (cType B ok3 rfl PyProof.Rows.Boot.«list» rfl rfl (sCons (cFn B ok3 rfl (fd := fdDiff) rfl rfl rfl (sCons (eLocal n3 b2 (sCons (eLocal n3 b1 (sNil ⟨⟨_, ok3⟩, ?_⟩)))))))))
  have hz3 := ok3.size
  refine diff_spec B (k := k + 4) ok3 (p3.list hm) (p3.list hl) hv (by rw [hv.length]; exact hz) fun x4 it4 u4 e1 e2 e3 p4 d4 => sNil ?_
  have ok4 := ok3.past p4
  have hz4 := ok4.size
  refine list_ff B (k := k + 1) ok4 d4 ((p3.trans p4).list hm) hw (by (clear hz4 e3 e1 e4 Ll hz0 hL hps b0 a0 hzn hz; omega)) (by (clear hz4 e3 e2 e4 Ll hz0 hL hps b0 a0 hzn hz; omega)) hzn fun a5 u5 vs5 e5 p5 l5 v5 => ?_
  have p35 : Past H.objs.size Dn u3 u5 := Past.fresh p4 p5 fun b hb => by subst hb; exact e1
  have ok5 := ok3.past p35
  refine rStoreLoc (L := L) (p35.ns n3) (fun u6 c6 n6 => ?_) rfl rfl rfl
  have p6 := (p3.trans p35).chg c6 (by (clear e5 hz4 e3 e2 e1 hz3 e4 Ll hz0 hps b0 a0 hzn hz; omega))
  have ok6 := ok5.chgNs c6 (by (clear e5 hz4 e3 e2 e1 hz3 e4 Ll hps b0 a0 hzn hz; omega)) n6
  have l6 := c6.pl l5 (list_ne_ns l5.list (p35.ns n3))
  have l6' := c6.pl (p35.pl l3) (list_ne_ns (p35.pl l3).list (p35.ns n3))
  obtain ⟨m6, n6, g3, g4, g5⟩ : ∃ m, u6.heap.Ns L m ∧ m "places" = some (.ref pl) ∧ m "mine" = some (.ref a1) ∧ m "yours" = some (.ref a5) := ⟨_, n6, b3, b4, rfl⟩
  clear b1 b2 b3 b4
  refine execs_cons (wpAny_Return_some (wpAny_BinOp (Subscript_ (eLocal n6 g3 (Subscript_ (eLocal n6 g4 ?_))))))
  obtain ⟨ta, hla⟩ := ints_last v2 ha
  obtain ⟨tb, hlb⟩ := ints_last v5 hb
  obtain ⟨tx, hxv⟩ := ints_get' hq hx
  obtain ⟨ty, hyv⟩ := ints_get' hq hy
  have az := List.getElem?_eq_some_iff.mp hx
  have bz := List.getElem?_eq_some_iff.mp hy
  have z1 := List.length_filter_le (fun z => !ns.contains z) os
  have z2 := List.length_filter_le (fun z => !os.contains z) ns
  refine rNegOne fun t7 u7 k7 e7 => ?_
  refine rItemNeg (k7.pl l6').list (by rw [List.size_toArray, v2.length]; (clear z2 bz az e5 hz4 e3 e2 e1 hz3 e4 Ll hz0 hL hps b0 a0 hzn; omega)) hla ?_
  have l7 := k7.list (p6.list hp)
  refine rItem l7 a0 (by have := az.1; (clear z2 z1 bz az e5 hz4 e3 e2 e1 hz3 e4 Ll hz0 hL b0 a0 hzn hz; omega)) (by simpa using hxv) ?_
  refine Subscript_ (eLocal (k7.ns n6) g3 (Subscript_ (eLocal (k7.ns n6) g5 (rNegOne fun t8 u8 k8 e8 => ?_))))
  refine rItemNeg (k8.pl (k7.pl l6)).list (by rw [List.size_toArray, v5.length]; (clear z1 bz az e5 hz4 e3 e2 e1 hz3 e4 Ll hz0 hL hps b0 a0 hz; omega)) hlb ?_
  refine rItem (k8.list l7) b0 (by have := bz.1; (clear z2 z1 bz az e5 hz4 e3 e2 e1 hz3 e4 Ll hz0 hL b0 a0 hzn hz; omega)) (by simpa using hyv) ?_
  refine sub_int ?_
  exact hQ _ _ (((p6.kept k7).kept k8).kept (Kept.tok _))
end
end Kk
end

/-! ### W15a -/
section
open PySem PySem.W PySem.Calls PyProof.Rows PySem.Spec Builtin
set_option maxRecDepth 100000
set_option maxHeartbeats 8000000
namespace Kk
theorem Kept.chg {a : Nat} {s t u : Shared} (k : Kept s t) (c : Chg a t u) (ha : s.heap.objs.size ≤ a) : Kept s u :=
  ⟨fun b o e => (c.same.2 b (Nat.ne_of_lt (Nat.lt_of_lt_of_le (Heap.lt_size e) ha))).trans (k.keep b o e), c.gens.trans k.gens, c.drawn.trans k.drawn, c.os.trans k.os⟩
section
variable {prog : Program} {w : World} {A : Around} {s : Shared}
theorem rAlloc {o : Obj} {Q : Addr → Shared → Prop} (hf : o.isFreed = false) (h : ∀ (a : Nat) u, a = s.heap.objs.size → Kept s u → u.heap.objs.size = a + 1 → u.heap.get? a = some o → Q a u) : Wp prog w A (alloc o) Q s :=
  wpAny_alloc (h _ _ rfl (Kept.push _) (Heap.size_push ..) (Heap.get?_push_size _ hf))
theorem rNewObj {T : String} {dt : Data} {Q : Value → Shared → Prop} (hf : ({ cls := .type T, data := dt } : Obj).isFreed = false) (hz : ({ cls := .type T, data := dt } : Obj).data = dt ∧ (newObj (.type T) dt none = newObjAsIs (.type T) dt none))
    (h : ∀ (a : Nat) u, a = s.heap.objs.size → Kept s u → u.heap.objs.size = a + 1 → u.heap.get? a = some { cls := .type T, data := dt } → Q (.ref a) u) : Wp prog w A (newObj (.type T) dt none) Q s := by
  rw [hz.2]
  unfold newObjAsIs
  exact wpAny_bind (rAlloc hf fun a u h1 h2 h3 h4 => wpAny_pure (h a u h1 h2 h3 h4))
theorem rUpd {a : Nat} {f : Obj → Obj} {o : Obj} {Q : Unit → Shared → Prop} (ho : s.heap.get? a = some o) (hf : (f o).isFreed = false) (h : ∀ u, Chg a s u → u.heap.get? a = some (f o) → Q () u) : Wp prog w A (update a f) Q s :=
  wpAny_update ho (h _ ⟨Heap.SameBut.update .., rfl, rfl, rfl⟩ (Heap.get?_update_self _ ho hf))
theorem rUpdPart {a : Nat} {part : Option Value} {f : Obj → Obj} {o : Obj} {Q : Unit → Shared → Prop} (ho : s.heap.get? a = some o) (hf : (f o).isFreed = false) (h : ∀ u, Chg a s u → u.heap.get? a = some (f o) → Q () u) : Wp prog w A (updatePart a part f) Q s :=
  wpAny_updatePart ho (h _ ⟨Heap.SameBut.update .., rfl, rfl, rfl⟩ (Heap.get?_update_self _ ho hf))
theorem rNsGet {a : Nat} {o : Obj} {name : Str} {r : Option Value} {Q : Option Value → Shared → Prop} (ho : s.heap.get? a = some o) (e : lookIn name o = some r) (h : Q r s) : Wp prog w A (nsGet a name) Q s := by
  unfold nsGet
  refine wpAny_bind (wpAny_loadPart ho ?_)
  rw [nsLook_of e]
  exact wpAny_pure h
theorem rSetSlotAt {a i : Nat} {v : Option Value} {o : Obj} {Q : Unit → Shared → Prop} (ho : s.heap.get? a = some o) (hi : i < 1000) (hf : o.isFreed = false)
    (h : ∀ u, Chg a s u → u.heap.get? a = some { o with slots := (o.slots ++ Array.replicate (i + 1 - o.slots.size) none).setIfInBounds i v } → Q () u) : Wp prog w A (setSlotAt a i v) Q s := by
  unfold setSlotAt
  rw [if_neg (by rw [sizeLine_eq]; omega)]
  exact rUpdPart ho (by obtain ⟨c, d, dt, sl⟩ := o; cases dt <;> first | rfl | exact hf) h
theorem rSlotAt {a i : Nat} {o : Obj} {Q : Option Value → Shared → Prop} (ho : s.heap.get? a = some o) (h : Q ((o.slots[i]?).join) s) : Wp prog w A (slotAt a i) Q s := by
  unfold slotAt
  refine wpAny_bind (wpAny_loadPart ho ?_)
  exact wpAny_pure h
theorem iteN {α : Type} {M : Model} {E : Value → Shared → Prop} {c : Prop} [Decidable c] {a b : Sem α} {Q : α → Shared → Prop} (hc : ¬ c) (h : wpAny M A b Q E s) : wpAny M A (if c then a else b) Q E s := by
  rw [if_neg hc]; exact h
theorem iteY {α : Type} {M : Model} {E : Value → Shared → Prop} {c : Prop} [Decidable c] {a b : Sem α} {Q : α → Shared → Prop} (hc : c) (h : wpAny M A a Q E s) : wpAny M A (if c then a else b) Q E s := by
  rw [if_pos hc]; exact h
theorem rEq {α β : Type} {M : Model} {E : Value → Shared → Prop} {t : Sem α} {f : α → Sem β} {a : α} {Q : β → Shared → Prop} (e : t = pure a) (h : wpAny M A (f a) Q E s) : wpAny M A (t >>= f) Q E s :=
  wpAny_bind (wpAny_of_eq e h)
theorem memKept {h₀ h : Heap} {news : List (Addr × Obj)} {g : Array GenState} {d : Drawn} {t t' : Nat} {os : OsState} (D : X.Mem h₀ h [] news) : Kept ⟨h₀, g, d, t, os⟩ ⟨h, g, d, t', os⟩ :=
  ⟨fun b o e => D.keep b o e (by simp [X.away]), rfl, rfl, rfl⟩
local macro_rules | `(tactic| x_close) => `(tactic| (apply_assumption; assumption))
theorem collect_run {hp : Heap} {g : Array GenState} {d : Drawn} {tk : Nat} {os : OsState} {ls : Nat} {t0 : Tok} {Q : Value → Shared → Prop}
    (hls : hp.get? ls = some { cls := .type "list", data := .seq #[.str "obj" t0] })
    (hQ : ∀ (a : Nat) h n, X.Mem hp h [] [(a, { cls := .type "list", data := .seq #[.str "obj" t0] n })] → Q (.ref a) ⟨h, g, d, tk, os⟩) :
    wpAny (model prog w) A (runValue (.builtin "proto.collect" ⟨[.ref ls], []⟩)) Q (fun _ _ => False) ⟨hp, g, d, tk, os⟩ := by
  x_run
theorem collect_one {ls : Nat} {t0 : Tok} {Q : List Value → Shared → Prop} (hls : s.heap.get? ls = some { cls := .type "list", data := .seq #[.str "obj" t0] })
    (hQ : ∀ u, Kept s u → Q [.str "obj" t0] u) : Wp prog w A (collect (.ref ls)) Q s := by
  obtain ⟨hp, g, d, tk, os⟩ := s
  unfold collect
  refine wpAny_bind (collect_run hls fun a h n D => ?_)
  have e := (D.nw (a, _) (.head _)).1
  exact wpAny_bind (wpAny_load e (wpAny_pure (hQ _ (memKept D))))
noncomputable abbrev kEnts (h : Array Int) (t : Array Tok) (ml ql : Str) (fl : Int) (ls f1 f2 f3 f4 f5 f6 tu : Nat) : List DictEntry :=
  [⟨h.getD 0 0, .str "__module__" (t.getD 0 0), .str ml (t.getD 1 0)⟩, ⟨h.getD 1 0, .str "__qualname__" (t.getD 2 0), .str ql (t.getD 3 0)⟩, ⟨h.getD 2 0, .str "__firstlineno__" (t.getD 4 0), .int fl (t.getD 5 0)⟩, ⟨h.getD 3 0, .str "__slots__" (t.getD 6 0), .ref ls⟩,
   ⟨h.getD 4 0, .str "__init__" (t.getD 7 0), .ref f1⟩, ⟨h.getD 5 0, .str "__lt__" (t.getD 8 0), .ref f2⟩, ⟨h.getD 6 0, .str "__gt__" (t.getD 9 0), .ref f3⟩, ⟨h.getD 7 0, .str "__eq__" (t.getD 10 0), .ref f4⟩, ⟨h.getD 8 0, .str "__le__" (t.getD 11 0), .ref f5⟩, ⟨h.getD 9 0, .str "__ge__" (t.getD 12 0), .ref f6⟩,
   ⟨h.getD 10 0, .str "__hash__" (t.getD 13 0), .none⟩, ⟨h.getD 11 0, .str "__static_attributes__" (t.getD 14 0), .ref tu⟩]
end
end Kk
end

/-! ### W15b -/
section
open PySem PySem.W PySem.Calls PyProof.Rows PySem.Spec Builtin
set_option maxRecDepth 100000
set_option maxHeartbeats 8000000
namespace Kk
noncomputable def ownLook (no : Obj) (name : Str) : Option (Option Value) := match lookIn name no with
  | some (some v) => some (some v)
  | some none => (match fastBuiltinOwn "object" name with | some v => some (some v) | none => some none)
  | none => none
/-- the class K as an object -/
noncomputable def kC (N : Nat) (ql : Str) (mro : List Value) (hd : Bool) (sn : List Str) (sl : Array (Option Value)) : Obj := ⟨.type "type", none, .cls { name := "K", bases := [.type "object"], mro, ns := N, qualname := ql, hasDict := hd, slotNames := sn }, sl⟩
theorem findOwn {K : Frag} {C : Addr} {co no : Obj} {cd : ClassData} {name : Str} {r : Option Value} (hC : K.lookup C = some co) (hcd : co.data = .cls cd) (hm : cd.mro = [.ref C, .type "object"]) (hN : K.lookup cd.ns = some no)
    (e : ownLook no name = some r) : findIn K (.ref C) name = some r := by
  obtain ⟨c, d, dt, sl⟩ := co
  simp only at hcd
  subst hcd
  have h1 : nsIn K cd.ns name = lookIn name no := by
    unfold nsIn lookIn
    rw [hN]
    obtain ⟨c', d', dt', sl'⟩ := no
    cases dt' <;> rfl
  have h2 : ownIn K name (.ref C) = lookIn name no := by
    show (match K.lookup C with | some ⟨_, _, .cls cd, _⟩ => nsIn K cd.ns name | _ => none) = _
    rw [hC]; exact h1
  show (match K.lookup C with | some ⟨_, _, .cls cd, _⟩ => alongIn K name cd.mro | _ => none) = _
  rw [hC]
  dsimp only
  rw [hm]
  unfold ownLook at e
  show (match ownIn K name (.ref C) with | some (some v) => some (some v) | some none => alongIn K name [.type "object"] | none => none) = _
  rw [h2]
  cases q : lookIn name no with
  | none => rw [q] at e; cases e
  | some x =>
    rw [q] at e
    cases x with
    | some v => exact e
    | none =>
      dsimp only at e ⊢
      rw [← e]
      show (match (some (fastBuiltinOwn "object" name) : Option (Option Value)) with | some (some v) => some (some v) | some none => some none | none => none) = _
      cases fastBuiltinOwn "object" name <;> rfl
theorem in2 {h : Heap} {a b : Addr} {oa ob : Obj} (ha : h.get? a = some oa) (hb : h.get? b = some ob) : Frag.In [(a, oa), (b, ob)] h := by
  intro x o e
  simp only [List.lookup_cons, List.lookup_nil] at e
  split at e
  · rename_i q; cases e; rw [beq_iff_eq.mp q]; exact ha
  · split at e
    · rename_i q; cases e; rw [beq_iff_eq.mp q]; exact hb
    · cases e
theorem lk1 {a b : Addr} {oa ob : Obj} : List.lookup a [(a, oa), (b, ob)] = some oa := by simp
theorem lk2 {a b : Addr} {oa ob : Obj} (h : a ≠ b) : List.lookup b [(a, oa), (b, ob)] = some ob := by simp [List.lookup_cons, beq_eq_false_iff_ne.mpr (Ne.symm h)]
section
variable {prog : Program} {w : World} {A : Around} {s : Shared}
theorem rUpdCls {a : Nat} {f : ClassData → ClassData} {o o' : Obj} {cd : ClassData} {Q : Unit → Shared → Prop} (ho : s.heap.get? a = some o) (hcd : o.data = .cls cd) (e : Obj.mapCls f o = o') (hp : o'.data.pastItsLine = none) (hf : o'.isFreed = false)
    (h : ∀ u, Chg a s u → u.heap.get? a = some o' → Q () u) : Wp prog w A (updateCls a f) Q s := by
  unfold updateCls
  refine wpAny_bind (wpAny_load ho ?_)
  rw [hcd]
  dsimp only
  subst e
  have e := Heap.get?_update_self (h := s.heap) (Obj.mapCls f) ho hf
  refine wpAny_bind (wpAny_update ho ?_)
  exact wpAny_lookBehind e hp (h { s with heap := _ } ⟨Heap.SameBut.update .., rfl, rfl, rfl⟩ e)
theorem rNsSet {a : Nat} {o : Obj} {name : Str} {v : Value} {Q : Unit → Shared → Prop} (ho : s.heap.get? a = some o) (hl : (lookIn name o).isSome = true)
    (h : ∀ u (tk : Tok), Chg a s u → (∀ od', Obj.putName name (PyData.keyHash w.params name) (.str name tk) v o = od' → od'.isFreed = false → u.heap.get? a = some od') → Q () u) : Wp prog w A (nsSet a name v) Q s := by
  unfold nsSet
  refine wpAny_bind (wpAny_bind (wpAny_askSetting (wpAny_pure (wpAny_bind (wpAny_mkText (wpAny_bind (wpAny_loadPart ho ?_)))))))
  unfold lookIn at hl
  split at hl
  · rename_i es₀ n₀ q
    rw [q]
    dsimp only
    have c : (!es₀.any (·.key.isStr name) && es₀.any (·.refKey)) = false := by
      rw [← Array.any_toList, ← Array.any_toList]
      split at hl
      · rename_i en he
        rw [List.any_eq_true.mpr ⟨en, List.mem_of_find?_eq_some he, List.find?_some he⟩]; rfl
      · split at hl
        · cases hl
        · rename_i z; rw [Bool.not_eq_true] at z; rw [z, Bool.and_false]
    rw [aRefKeyMayBeTheName_at, c]
    refine wpAny_updatePart ho ?_
    exact h { s with heap := _, toks := s.toks + 1 } s.toks ⟨Heap.SameBut.update .., rfl, rfl, rfl⟩ fun od' e hf => by
      have e2 := Heap.get?_update_self (h := s.heap) (Obj.putName name (PyData.keyHash w.params name) (.str name s.toks) v) ho (by rw [e]; exact hf)
      rw [e] at e2
      exact e2
  · cases hl
theorem rSetSlotE {a i : Nat} {v : Option Value} {o o' : Obj} {Q : Unit → Shared → Prop} (ho : s.heap.get? a = some o) (hi : i < 1000)
    (e : { o with slots := (o.slots ++ Array.replicate (i + 1 - o.slots.size) none).setIfInBounds i v } = o') (hf : o'.isFreed = false) (h : ∀ u, Chg a s u → u.heap.get? a = some o' → Q () u) : Wp prog w A (setSlotAt a i v) Q s := by
  unfold setSlotAt
  rw [if_neg (by rw [sizeLine_eq]; omega)]
  refine wpAny_updatePart ho (h { s with heap := _ } ⟨Heap.SameBut.update .., rfl, rfl, rfl⟩ ?_)
  subst e
  exact Heap.get?_update_self _ ho hf
end
end Kk
end

/-! ### W15c -/
section
open PySem PySem.W PySem.Calls PyProof.Rows PySem.Spec Builtin
set_option maxRecDepth 100000
set_option maxHeartbeats 2000000
namespace Kk
noncomputable abbrev kEnts2 (h : Array Int) (t : Array Tok) (ml : Str) (fl : Int) (ls f1 f2 f3 f4 f5 f6 tu : Nat) : List DictEntry :=
  [⟨h.getD 0 0, .str "__module__" (t.getD 0 0), .str ml (t.getD 1 0)⟩, ⟨h.getD 2 0, .str "__firstlineno__" (t.getD 4 0), .int fl (t.getD 5 0)⟩, ⟨h.getD 3 0, .str "__slots__" (t.getD 6 0), .ref ls⟩,
   ⟨h.getD 4 0, .str "__init__" (t.getD 7 0), .ref f1⟩, ⟨h.getD 5 0, .str "__lt__" (t.getD 8 0), .ref f2⟩, ⟨h.getD 6 0, .str "__gt__" (t.getD 9 0), .ref f3⟩, ⟨h.getD 7 0, .str "__eq__" (t.getD 10 0), .ref f4⟩, ⟨h.getD 8 0, .str "__le__" (t.getD 11 0), .ref f5⟩, ⟨h.getD 9 0, .str "__ge__" (t.getD 12 0), .ref f6⟩,
   ⟨h.getD 10 0, .str "__hash__" (t.getD 13 0), .none⟩, ⟨h.getD 11 0, .str "__static_attributes__" (t.getD 14 0), .ref tu⟩]
noncomputable abbrev kNs (h : Array Int) (t : Array Tok) (ml : Str) (fl : Int) (ls f1 f2 f3 f4 f5 f6 tu : Nat) (more : List DictEntry) (n : Nat) : Obj :=
  { cls := .type "dict", data := .dict (kEnts2 h t ml fl ls f1 f2 f3 f4 f5 f6 tu ++ more).toArray n }
section
variable {prog : Program} {w : World} {A : Around} {s : Shared} {h : Array Int} {t : Array Tok} {ml ql : Str} {fl : Int} {ls f1 f2 f3 f4 f5 f6 tu N C : Nat}
theorem rNewFields {T : String} {vs : List Value} {Q : Value → Shared → Prop} (hz : vs.length ≤ 100) (h : ∀ (a : Nat) u, a = s.heap.objs.size → Kept s u → u.heap.objs.size = a + 1 → u.heap.get? a = some { cls := .type T, data := .fields vs.toArray } → Q (.ref a) u) : Wp prog w A (newFields T vs) Q s := by
  unfold newFields
  exact wpAny_newObj_type (h _ _ rfl (Kept.push _) (Heap.size_push ..) (Heap.get?_push_size _ rfl)) (by show vs.toArray.size ≤ sizeLine + 2; rw [List.size_toArray, sizeLine_eq]; omega)
theorem rNsSetV {a n : Nat} {o : Obj} {es : Array DictEntry} {name : Str} {v : Value} {Q : Unit → Shared → Prop} (ho : s.heap.get? a = some o) (hd : o.data = .dict es n) (hz : es.size ≤ 1000) (hl : (lookIn name o).isSome = true)
    (h : ∀ u (tk : Tok), Chg a s u → (∀ od', Obj.putName name (PyData.keyHash w.params name) (.str name tk) v o = od' → od'.isFreed = false → u.heap.get? a = some od') → Q () u) : Wp prog w A (nsSetByValue a name v) Q s := by
  unfold nsSetByValue
  refine wpAny_bind (wpAny_loadPart ho ?_)
  rw [hd]
  dsimp only
  refine KFB.if_not (by rw [Bool.and_eq_false_iff]; exact .inl (decide_eq_false (by rw [sizeLine_eq]; omega))) ?_
  exact rNsSet ho hl h
theorem refresh_spec {sl : Array (Option Value)} {n : Nat} {Q : Unit → Shared → Prop} (g : s.heap.get? C = some (kC N ql [.ref C, .type "object"] true [] sl)) (gn : s.heap.get? N = some (kNs h t ml fl ls f1 f2 f3 f4 f5 f6 tu [] n)) (hsl : (sl[4]?).join = some (.builtin "object.__new__")) (ne : N ≠ C)
    (hQ : Q () s) : Wp prog w A (Bind.refreshMaker C) Q s := by
  unfold Bind.refreshMaker
  refine wpAny_bind (rSlotAt g ?_)
  refine KFB.if_not (by show ((sl[4]?).join).isNone = false; rw [hsl]; rfl) ?_
  refine wpAny_bind ((looks_findIn (K := [(C, _), (N, _)]) (in2 g gn) (findOwn (r := some (.builtin "object.__new__")) lk1 rfl rfl (lk2 (Ne.symm ne)) (by kernel_rfl))).here ?_)
  dsimp only
  refine KFB.if_not (by kernel_rfl) ?_
  exact wpAny_pure hQ
theorem install_spec {sl : Array (Option Value)} {n : Nat} {Q : Unit → Shared → Prop} (g : s.heap.get? C = some (kC N ql [.ref C, .type "object"] true [] sl)) (gn : s.heap.get? N = some (kNs h t ml fl ls f1 f2 f3 f4 f5 f6 tu [] n)) (ne : N ≠ C)
    (hQ : ∀ (D : Nat) u hs to tm, s.heap.objs.size ≤ D → (∀ b o, b ≠ C → b ≠ N → s.heap.get? b = some o → u.heap.get? b = some o) → u.gens = s.gens → u.drawn = s.drawn → u.os = s.os →
      u.heap.get? C = some (kC N ql [.ref C, .type "object"] false ["obj"] sl) → u.heap.get? N = some (kNs h t ml fl ls f1 f2 f3 f4 f5 f6 tu [⟨hs, .str "obj" to, .ref D⟩] (n + 1)) →
      u.heap.get? D = some { cls := .type "member_descriptor", data := .fields #[.str "obj" tm, .ref C, .builtin "proto.slot", .builtin "proto.slot#set", .int 0 0] } → Q () u) :
    Wp prog w A (Slots.install (.ref C) N [.type "object"] ⟨["obj"], false, false, []⟩) Q s := by
  unfold Slots.install
  dsimp only
  refine wpAny_bind ?_
  rw [List.forIn_cons]
  refine wpAny_bind (wpAny_bind (rNsGet (r := none) gn (by kernel_rfl) ?_))
  refine KFB.if_so rfl ?_
  refine wpAny_bind (wpAny_mkStr ?_)
  have k1 : Kept s { s with toks := s.toks + 1 } := Kept.tok _
  have e1 : ({ s with toks := s.toks + 1 } : Shared).heap = s.heap := rfl
  generalize ({ s with toks := s.toks + 1 } : Shared) = u1 at k1 e1 ⊢
  refine wpAny_bind (rNewFields (show 5 ≤ 100 by decide) fun D u2 hD k2 z2 g2 => ?_)
  have g2n := k2.keep _ _ (k1.keep _ _ gn)
  have g2c := k2.keep _ _ (k1.keep _ _ g)
  refine wpAny_bind (rNsSetV (es := (kEnts2 h t ml fl ls f1 f2 f3 f4 f5 f6 tu ++ []).toArray) (n := n) g2n rfl (by show 12 - 1 ≤ 1000; decide) (by kernel_rfl) fun u3 to c3 g3 => ?_)
  have g3n := g3 (kNs h t ml fl ls f1 f2 f3 f4 f5 f6 tu [⟨PyData.keyHash w.params "obj", .str "obj" to, .ref D⟩] (n + 1)) (by kernel_rfl) rfl
  have Cl : (C : Nat) < s.heap.objs.size := Heap.lt_size g
  have Nl : (N : Nat) < s.heap.objs.size := Heap.lt_size gn
  have z1 : s.heap.objs.size ≤ u1.heap.objs.size := by rw [e1]; exact Nat.le_refl _
  have g3c := (c3.same.2 C (Ne.symm ne)).trans g2c
  have g3d := (c3.same.2 D (Nat.ne_of_gt (by omega))).trans g2
  refine wpAny_pure (wpAny_pure ?_)
  refine rEq (a := false) (by kernel_rfl) ?_
  refine iteN (show ¬ (1 > sizeLine) by rw [sizeLine_eq]; decide) ?_
  refine rUpdCls (o' := kC N ql [.ref C, .type "object"] false ["obj"] sl) g3c rfl (by kernel_rfl) (by kernel_rfl) rfl fun u4 c4 g4 => ?_
  refine hQ D u4 _ to _ (by omega) (fun b o h1 h2 e => ?_) (c4.gens.trans (c3.gens.trans (k2.gens.trans k1.gens))) (c4.drawn.trans (c3.drawn.trans (k2.drawn.trans k1.drawn))) (c4.os.trans (c3.os.trans (k2.os.trans k1.os))) g4 ((c4.same.2 N ne).trans g3n) ((c4.same.2 D (Nat.ne_of_gt (by omega))).trans g3d)
  exact (c4.same.2 b h1).trans ((c3.same.2 b h2).trans (k2.keep _ _ (k1.keep _ _ e)))
end
end Kk
end

/-! ### W15d -/
section
open PySem PySem.W PySem.Calls PyProof.Rows PySem.Spec Builtin
set_option maxRecDepth 100000
set_option maxHeartbeats 2000000
namespace Kk
section
variable {prog : Program} {w : World} {A : Around} {s : Shared} {ql : Str} {N C : Nat}
local macro_rules | `(tactic| x_close) => `(tactic| (first | (apply_assumption; assumption) | (apply_assumption; exact X.Mem.start _)))
theorem super_run {hp : Heap} {g : Array GenState} {d : Drawn} {tk : Nat} {os : OsState} {sl : Array (Option Value)} {Q : Value → Shared → Prop}
   (gC : hp.get? C = some ⟨.type "type", none, .cls { name := "K", bases := [.type "object"], mro := [.ref C, .type "object"], ns := N, qualname := ql, hasDict := false, slotNames := ["obj"] }, sl⟩)
   (hQ : ∀ (a : Nat) h, X.Mem hp h [] [(a, { cls := .type "super", data := .fields #[.ref C, .ref C, .ref C] })] → Q (.ref a) ⟨h, g, d, tk, os⟩) :
   wpAny (model prog w) A (call (.type "super") [.ref C, .ref C]) Q (fun _ _ => False) ⟨hp, g, d, tk, os⟩ := by
  x_run
theorem initsub_run {hp : Heap} {g : Array GenState} {d : Drawn} {tk : Nat} {os : OsState} {sl : Array (Option Value)} {Q : Value → Shared → Prop}
   (gC : hp.get? C = some ⟨.type "type", none, .cls { name := "K", bases := [.type "object"], mro := [.ref C, .type "object"], ns := N, qualname := ql, hasDict := false, slotNames := ["obj"] }, sl⟩)
   (hQ : ∀ (a : Nat) h, X.Mem hp h [] [(a, { cls := .type "builtin_function_or_method", data := .fields #[.builtin "object.__init_subclass__", .ref C] })] → Q (.ref a) ⟨h, g, d, tk, os⟩) :
   wpAny (model prog w) A (call (.builtin "classmethod_descriptor.__get__") [.builtin "object.__init_subclass__", .none, .ref C]) Q (fun _ _ => False) ⟨hp, g, d, tk, os⟩ := by
  x_run
theorem initsub_call {hp : Heap} {g : Array GenState} {d : Drawn} {tk : Nat} {os : OsState} {sl : Array (Option Value)} {f : Nat} {Q : Value → Shared → Prop}
   (gC : hp.get? C = some ⟨.type "type", none, .cls { name := "K", bases := [.type "object"], mro := [.ref C, .type "object"], ns := N, qualname := "cmp_to_key.<locals>.K", hasDict := false, slotNames := ["obj"] }, sl⟩)
   (gf : hp.get? f = some { cls := .type "builtin_function_or_method", data := .fields #[.builtin "object.__init_subclass__", .ref C] })
   (hQ : ∀ v h news, X.Mem hp h [] news → Q v ⟨h, g, d, tk, os⟩) :
   wpAny (model prog w) A (call (.ref f) []) Q (fun _ _ => False) ⟨hp, g, d, tk, os⟩ := by
  x_run
theorem getattr_initsub {S : Nat} {sl : Array (Option Value)} {Q : Value → Shared → Prop} (X : (KF w.params).In s.heap) (ho : s.heap.get? S = some { cls := .type "super", data := .fields #[.ref C, .ref C, .ref C] })
   (gC : s.heap.get? C = some (kC N ql [.ref C, .type "object"] false ["obj"] sl))
   (hQ : ∀ (f : Nat) u, Kept s u → u.heap.get? f = some { cls := .type "builtin_function_or_method", data := .fields #[.builtin "object.__init_subclass__", .ref C] } → Q (.ref f) u) :
   Wp prog w A (getAttr (.ref S) "__init_subclass__") Q s := by
  have hT : s.TypeIs (.ref S) "super" := ⟨_, ho, rfl⟩
  unfold getAttr
  refine wpAny_bind (wpAny_mkText ?_)
  generalize hu : ({ s with toks := s.toks + 1 } : Shared) = u
  have ku : Kept s u := hu ▸ Kept.tok _
  have ho2 := ku.keep _ _ ho
  have hT2 : u.TypeIs (.ref S) "super" := ⟨_, ho2, rfl⟩
  have gC2 := ku.keep _ _ gC
  unfold getAttrBy
  refine wpAny_holding (wpAny_bind (wpAny_typeOf hT2 (wpAny_bind (wpAny_of_eq PySem.F.ks_slot_super_ga.lookup ?_))))
  dsimp (config := { zeta := false, zetaHave := false }) only
  rw [if_neg (by simp [onTheHeap])]
  unfold getAttrByItsOwn hookBefore
  refine wpAny_bind ?_
  rw [if_neg (by simp [onTheHeap])]
  refine wpAny_pure (wpAny_bind (wpAny_attempt (wpAny_holding ?_)))
  unfold callGetattribute
  rw [if_neg (by simp [onTheHeap])]
  unfold boundAndCalled
  refine wpAny_bind (wpAny_of_eq (PySem.F.ks_slot_super_ga.bind _) ?_)
  refine wpAny_call_entry PySem.F.ks_slot_super_ga hT2 PySem.F.ks_entry_super_ga ?_ (PySem.F.ks_gaArgs_super _ _)
  unfold Builtin.«super.__getattribute__»
  have q1 : classOwn (.type "object") "__init_subclass__" = pure (some (.builtin "object.__init_subclass__")) := by
    unfold classOwn; dsimp only; rw [PySem.builtinOwn_eq_fast]; kernel_rfl
  have q2 : typeOf (.builtin "object.__init_subclass__") = pure (.type "classmethod_descriptor") := by
    show builtinType _ = _; rw [builtinType_eq_fast]; kernel_rfl
  have q3 : typeLookup (.type "classmethod_descriptor") "__get__" = pure (some (.builtin "classmethod_descriptor.__get__")) := by rw [typeLookup_type, builtinLookup_eq_fast]; kernel_rfl
  have hno : Looks (model prog w) u.heap (opaqueClassAbove (.ref C)) none := looks_opaque (K := KF w.params) (X.keeps ku.keep) (by kernel_rfl)
  have hC : Looks (model prog w) u.heap (mroOf (.ref C)) [.ref C, .type "object"] := ((Looks.ld (part := none) gC2).andThen .now).andThen .now
  show wpAny _ _ (asStr? _ >>= _) _ _ _
  refine rEq (a := some ("__init_subclass__" : Str)) (by kernel_rfl) ?_
  refine KFB.if_not rfl ?_
  refine rEq (a := some ("__init_subclass__" : Str)) (by kernel_rfl) ?_
  dsimp (config := { zeta := false, zetaHave := false }) only
  refine wpAny_bind (wpAny_field ho2 rfl (x := .ref C) rfl ?_)
  refine wpAny_bind (wpAny_field ho2 rfl (x := .ref C) rfl ?_)
  refine wpAny_bind (wpAny_field ho2 rfl (x := .ref C) rfl ?_)
  refine KFB.if_not (by kernel_rfl) ?_
  refine wpAny_bind (ks_wpAny_notOpaque hno ?_)
  refine KFB.if_not rfl ?_
  refine wpAny_bind (hC.here ?_)
  rw [show List.drop 1 (List.dropWhile (fun x => x != Value.ref C) [Value.ref C, .type "object"]) = [.type "object"] by simp]
  refine wpAny_bind ?_
  rw [List.forIn_cons]
  refine wpAny_bind (rEq q1 ?_)
  dsimp (config := { zeta := false, zetaHave := false }) only
  refine rEq q2 ?_
  refine rEq q3 ?_
  dsimp (config := { zeta := false, zetaHave := false }) only
  rw [show (Value.ref C == Value.ref C) = true by simp, if_pos rfl]
  obtain ⟨hp, g, d, tk, os⟩ := u
  refine wpAny_bind (wpAny_holding (Wp.any (initsub_run gC2 fun f h D => ?_)))
  refine wpAny_bind (wpAny_pure ?_)
  refine wpAny_pure ?_
  refine wpAny_pure ?_
  refine wpAny_pure ?_
  have kd : Kept (⟨hp, g, d, tk, os⟩ : Shared) ⟨h, g, d, tk, os⟩ := memKept D
  exact ⟨_, rfl, wpAny_pure (hQ f _ (ku.trans kd) (D.nw (f, _) (.head _)).1)⟩
/-- a walk over a list that changes nothing -/
theorem forInStill {xs : List DictEntry} {body : DictEntry → PUnit → Sem (ForInStep PUnit)} (hb : ∀ e ∈ xs, ∀ Q : ForInStep PUnit → Shared → Prop, Q (.yield PUnit.unit) s → Wp prog w A (body e PUnit.unit) Q s) {Q : PUnit → Shared → Prop} (hQ : Q PUnit.unit s) :
    Wp prog w A (forIn xs PUnit.unit body) Q s := by
  induction xs with
  | nil => exact wpAny_pure hQ
  | cons x xs ih =>
    rw [List.forIn_cons]
    refine wpAny_bind (hb x (.head _) _ ?_)
    exact ih fun e he => hb e (.tail _ he)
theorem sn_str : typeLookup (.type "str") "__set_name__" = pure none := by rw [typeLookup_type, builtinLookup_eq_fast]; kernel_rfl
theorem sn_int : typeLookup (.type "int") "__set_name__" = pure none := by rw [typeLookup_type, builtinLookup_eq_fast]; kernel_rfl
theorem sn_list : typeLookup (.type "list") "__set_name__" = pure none := by rw [typeLookup_type, builtinLookup_eq_fast]; kernel_rfl
theorem sn_function : typeLookup (.type "function") "__set_name__" = pure none := by rw [typeLookup_type, builtinLookup_eq_fast]; kernel_rfl
theorem sn_none : typeLookup (.type "NoneType") "__set_name__" = pure none := by rw [typeLookup_type, builtinLookup_eq_fast]; kernel_rfl
theorem sn_tuple : typeLookup (.type "tuple") "__set_name__" = pure none := by rw [typeLookup_type, builtinLookup_eq_fast]; kernel_rfl
theorem sn_md : typeLookup (.type "member_descriptor") "__set_name__" = pure none := by rw [typeLookup_type, builtinLookup_eq_fast]; kernel_rfl
theorem setName {v : Value} {T : String} {Q : Option Value → Shared → Prop} (hT : s.TypeIs v T) (h : typeLookup (.type T) "__set_name__" = pure none) (hq : Q none s) : Wp prog w A (specialOf v "__set_name__") Q s := wpAny_specialOf hT h hq
theorem typeIs_kept {v : Value} {T : String} {s t : Shared} (h : s.TypeIs v T) (k : Kept s t) : t.TypeIs v T := by
  cases v with
  | ref a => obtain ⟨o, e, c⟩ := h; exact ⟨o, k.keep _ _ e, c⟩
  | _ => exact h
theorem typeIs_str {x : Str} {t : Tok} : s.TypeIs (.str x t) "str" := by show typeOf _ = _; kernel_rfl
theorem typeIs_int {x : Int} {t : Tok} : s.TypeIs (.int x t) "int" := by show typeOf _ = _; kernel_rfl
theorem typeIs_none : s.TypeIs .none "NoneType" := by show typeOf _ = _; kernel_rfl
end
end Kk
end

/-! ### W15 -/
section
open PySem PySem.W PySem.Calls PyProof.Rows PySem.Spec Builtin
set_option maxRecDepth 100000
set_option maxHeartbeats 8000000
namespace Kk
section
variable {prog : Program} {w : World} {A : Around} {s : Shared}
theorem slots_read {h : Array Int} {t : Array Tok} {ml ql : Str} {fl : Int} {ls f1 f2 f3 f4 f5 f6 tu : Nat} {t0 : Tok} {Q : Slots.Plan → Shared → Prop}
    (hls : s.heap.get? ls = some { cls := .type "list", data := .seq #[.str "obj" t0] })
    (hQ : ∀ u, Kept s u → Q ⟨["obj"], false, false, []⟩ u) : Wp prog w A (Slots.read "K" [.type "object"] (kEnts h t ml ql fl ls f1 f2 f3 f4 f5 f6 tu).toArray) Q s := by
  have hf : ((kEnts h t ml ql fl ls f1 f2 f3 f4 f5 f6 tu).toArray.find? (·.key.isStr "__slots__")) = some ⟨h.getD 3 0, .str "__slots__" (t.getD 6 0), .ref ls⟩ := by kernel_rfl
  unfold Slots.read
  refine rEq (a := Value.type "object") (by kernel_rfl) ?_
  refine rEq (a := ([] : List Str)) (by kernel_rfl) ?_
  refine rEq (a := false) (by kernel_rfl) ?_
  refine rEq (a := false) (by kernel_rfl) ?_
  refine rEq (a := false) (by kernel_rfl) ?_
  rw [hf]
  dsimp (config := { zeta := false, zetaHave := false }) only
  refine wpAny_bind (wpAny_rule ?_)
  refine wpAny_bind (m := asStr? (.ref ls)) ?_
  unfold asStr?
  refine wpAny_bind (wpAny_load hls (wpAny_pure ?_))
  refine KFB.if_not rfl ?_
  refine wpAny_bind (collect_one hls fun u ku => ?_)
  exact wpAny_of_eq (a := (⟨["obj"], false, false, []⟩ : Slots.Plan)) (by kernel_rfl) (hQ u ku)
theorem rNewDictObj {es : Array DictEntry} {Q : Value → Shared → Prop} (hz : es.size ≤ 1000) (h : ∀ (a : Nat) u, a = s.heap.objs.size → Kept s u → u.heap.objs.size = a + 1 → u.heap.get? a = some { cls := .type "dict", data := .dict es } → Q (.ref a) u) : Wp prog w A (newObj (.type "dict") (.dict es)) Q s := by
  unfold newObj
  refine iteN (by rw [sizeLine_eq]; omega) ?_
  unfold newObjAsIs
  exact wpAny_bind (rAlloc rfl fun a u h1 h2 h3 h4 => wpAny_pure (h a u h1 h2 h3 h4))
theorem rNsDel {a : Nat} {o : Obj} {name : Str} {Q : Bool → Shared → Prop} (ho : s.heap.get? a = some o) (e : nsHas name o = pure true) (hf : (Obj.dropName name o).isFreed = false)
    (h : ∀ u, Chg a s u → u.heap.get? a = some (Obj.dropName name o) → Q true u) : Wp prog w A (nsDel a name) Q s := by
  unfold nsDel
  refine wpAny_bind (wpAny_loadPart ho ?_)
  refine rEq e ?_
  refine KFB.if_so rfl ?_
  exact wpAny_bind (rUpdPart ho hf fun u c hu => wpAny_pure (h u c hu))
theorem type_new (X : (KF w.params).In s.heap) {na bt ls f1 f2 f3 f4 f5 f6 tu n : Nat} {h : Array Int} {t : Array Tok} {ml ql : Str} {fl : Int} {tk t0 : Tok} {Q : PySem.Fin → Shared → Prop} (hql : ql = "cmp_to_key.<locals>.K")
    (hA : A.handled = none) (hna : s.heap.get? na = some { cls := .type "dict", data := .dict (kEnts h t ml ql fl ls f1 f2 f3 f4 f5 f6 tu).toArray n }) (hbt : s.heap.get? bt = some { cls := .type "tuple", data := .seq #[.type "object"] })
    (hls : s.heap.get? ls = some { cls := .type "list", data := .seq #[.str "obj" t0] }) (hn1 : 1 < na)
    (hf1 : s.TypeIs (.ref f1) "function") (hf2 : s.TypeIs (.ref f2) "function") (hf3 : s.TypeIs (.ref f3) "function") (hf4 : s.TypeIs (.ref f4) "function") (hf5 : s.TypeIs (.ref f5) "function") (hf6 : s.TypeIs (.ref f6) "function") (htu : s.TypeIs (.ref tu) "tuple")
    (hQ : ∀ (C N D : Nat) u (hs hd : Int) (to td tm : Tok) sl, Kept s u → (∀ b o, s.heap.get? b = some o → b ≠ C ∧ b ≠ N ∧ b ≠ D) → N ≠ C → D ≠ N → D ≠ C → (sl[4]?).join = some (.builtin "object.__new__") →
      u.heap.get? C = some (kC N "cmp_to_key.<locals>.K" [.ref C, .type "object"] false ["obj"] sl) →
      u.heap.get? N = some (kNs h t ml fl ls f1 f2 f3 f4 f5 f6 tu [⟨hs, .str "obj" to, .ref D⟩, ⟨hd, .str "__doc__" td, .none⟩] 3) →
      u.heap.get? D = some { cls := .type "member_descriptor", data := .fields #[.str "obj" tm, .ref C, .builtin "proto.slot", .builtin "proto.slot#set", .int 0 0] } → Q (.done (.ret (.ref C))) u) :
    Wp prog w A (Builtin.«type.__new__» ⟨[.type "type", .str "K" tk, .ref bt, .ref na], []⟩) Q s := by
  have q1 : isSubtype (.type "tuple") (.type "tuple") = pure true := by rw [isSubtype_type]; kernel_rfl
  have q2 : isSubtype (.type "dict") (.type "dict") = pure true := by rw [isSubtype_type]; kernel_rfl
  have q7 : typeLookup (.type "dict") "__iter__" = pure (some (.builtin "dict.__iter__")) := by rw [typeLookup_type, builtinLookup_eq_fast]; kernel_rfl
  unfold Builtin.«type.__new__»
  refine rEq (a := some ("K" : Str)) (by kernel_rfl) ?_
  dsimp (config := { zeta := false, zetaHave := false }) only
  refine wpAny_bind (wpAny_isInstance ⟨_, hbt, rfl⟩ q1 ?_)
  refine KFB.if_not rfl ?_
  refine wpAny_bind (wpAny_isInstance ⟨_, hna, rfl⟩ q2 ?_)
  refine KFB.if_not rfl ?_
  refine wpAny_bind (wpAny_seqItems hbt rfl ?_)
  refine iteN (show ¬ (1 > 2 ^ 20) by decide) ?_
  refine rEq (a := PUnit.unit) (by kernel_rfl) ?_
  refine rEq (a := Value.type "type") (by kernel_rfl) ?_
  refine KFB.if_not (show (Value.type "type" != Value.type "type") = false by decide) ?_
  refine rEq (a := ()) (by kernel_rfl) ?_
  refine rEq (a := Value.type "object") (by kernel_rfl) ?_
  refine KFB.if_not (show (na == sysModules) = false from beq_eq_false_iff_ne.mpr (Nat.ne_of_gt hn1)) ?_
  refine wpAny_bind (wpAny_dictEntries hna rfl ?_)
  refine wpAny_bind (wpAny_specialOf ⟨_, hna, rfl⟩ q7 ?_)
  refine KFB.if_so (by rfl) ?_
  refine wpAny_bind (wpAny_pure ?_)
  refine wpAny_bind (wpAny_holding ?_)
  show wpAny _ A (Slots.read "K" [.type "object"] (kEnts h t ml ql fl ls f1 f2 f3 f4 f5 f6 tu).toArray) _ _ _
  refine slots_read hls fun u1 k1 => ?_
  refine wpAny_bind (rNewDictObj (show 12 ≤ 1000 by decide) fun N u2 hN k2 z2 g2 => ?_)
  dsimp (config := { zeta := false, zetaHave := false }) only
  refine KFB.if_not (by kernel_rfl) ?_
  refine rEq (a := ()) (by kernel_rfl) ?_
  refine KFB.if_not (by kernel_rfl) ?_
  refine wpAny_bind (rNsGet (r := some (.str ql (t.getD 3 0))) g2 (by kernel_rfl) ?_)
  refine wpAny_bind (rNsGet (r := some (.str ql (t.getD 3 0))) g2 (by kernel_rfl) ?_)
  dsimp (config := { zeta := false, zetaHave := false }) only
  refine rEq (a := some ql) (by kernel_rfl) ?_
  dsimp (config := { zeta := false, zetaHave := false }) only
  refine wpAny_bind (wpAny_pure ?_)
  refine wpAny_bind (rNsGet (r := none) g2 (by kernel_rfl) ?_)
  dsimp (config := { zeta := false, zetaHave := false }) only
  refine wpAny_bind (rAlloc (o := kC N ql [] true [] #[]) rfl fun C u3 hC k3 z3 g3 => ?_)
  have g2' := k3.keep _ _ g2
  refine KFB.if_so (by decide) ?_
  refine wpAny_bind (rSetSlotE (o' := kC N ql [] true [] #[some (.ref bt)]) g3 (by decide) (by kernel_rfl) rfl fun u4 c4 g4 => ?_)
  refine wpAny_bind (rSetSlotE (o' := kC N ql [] true [] #[some (.ref bt), none, some (.str "K" tk)]) g4 (by decide) (by kernel_rfl) rfl fun u5 c5 g5 => ?_)
  dsimp only [Option.orElse]
  refine wpAny_bind (rSetSlotE (o' := kC N ql [] true [] #[some (.ref bt), none, some (.str "K" tk), some (.str ql (t.getD 3 0))]) g5 (by decide) (by kernel_rfl) rfl fun u6 c6 g6 => ?_)
  have Nl : (N : Nat) < C := by omega
  have nNC : N ≠ C := Nat.ne_of_lt Nl
  have g6' := (c6.same.2 N nNC).trans ((c5.same.2 N nNC).trans ((c4.same.2 N nNC).trans g2'))
  refine wpAny_bind (rNsDel g6' (by kernel_rfl) rfl fun u7 c7 g7 => ?_)
  rw [show Obj.dropName (Str.ofString "__qualname__") { cls := .type "dict", data := .dict (kEnts h t ml ql fl ls f1 f2 f3 f4 f5 f6 tu).toArray } = { cls := .type "dict", data := .dict (kEnts2 h t ml fl ls f1 f2 f3 f4 f5 f6 tu).toArray 1 } from by kernel_rfl] at g7
  have g7c := (c7.same.2 C (Ne.symm nNC)).trans g6
  refine wpAny_bind (rNsGet (r := none) g7 (by kernel_rfl) ?_)
  dsimp (config := { zeta := false, zetaHave := false }) only
  refine wpAny_bind ?_
  rw [List.forIn_cons]
  refine wpAny_bind (wpAny_bind (rNsGet (r := none) g7 (by kernel_rfl) (wpAny_pure ?_)))
  dsimp (config := { zeta := false, zetaHave := false }) only
  rw [List.forIn_cons]
  refine wpAny_bind (wpAny_bind (rNsGet (r := none) g7 (by kernel_rfl) (wpAny_pure ?_)))
  dsimp (config := { zeta := false, zetaHave := false }) only
  rw [List.forIn_nil]
  refine wpAny_pure ?_
  refine wpAny_bind (rNsGet (r := none) g7 (by kernel_rfl) ?_)
  dsimp (config := { zeta := false, zetaHave := false }) only
  refine wpAny_bind (rNsGet (r := none) g7 (by kernel_rfl) ?_)
  dsimp (config := { zeta := false, zetaHave := false }) only
  refine rEq (a := (none : Option Value)) (by kernel_rfl) ?_
  dsimp (config := { zeta := false, zetaHave := false }) only
  refine rEq (a := [Value.type "object"]) (by kernel_rfl) ?_
  refine wpAny_bind (wpAny_pure ?_)
  rw [show ([Value.ref C, Value.type "object"].filter (fun x => x != Value.ref C)) = [Value.type "object"] by simp]
  refine rEq (a := false) (by kernel_rfl) ?_
  refine wpAny_bind (rUpdCls (o' := kC N ql [.ref C, .type "object"] true [] #[some (.ref bt), none, some (.str "K" tk), some (.str ql (t.getD 3 0))]) g7c rfl (by kernel_rfl) (by kernel_rfl) rfl fun u8 c8 g8 => ?_)
  have g8n := (c8.same.2 N nNC).trans g7
  refine rEq (a := some "object.__new__") (by kernel_rfl) ?_
  refine wpAny_bind (rSetSlotE (o' := kC N ql [.ref C, .type "object"] true [] #[some (.ref bt), none, some (.str "K" tk), some (.str ql (t.getD 3 0)), some (.builtin "object.__new__")]) g8 (by decide) (by kernel_rfl) rfl fun u9 c9 g9 => ?_)
  have g9n := (c9.same.2 N nNC).trans g8n
  have g9n' : u9.heap.get? N = some (kNs h t ml fl ls f1 f2 f3 f4 f5 f6 tu [] 1) := g9n
  refine wpAny_bind (refresh_spec g9 g9n' rfl nNC ?_)
  refine wpAny_bind (install_spec g9 g9n' nNC fun D u10 hs to tm hD k10 e1 e2 e3 g10 g10n g10d => ?_)
  refine rEq (a := false) (by kernel_rfl) ?_
  refine wpAny_bind (rSetSlotE (o' := kC N ql [.ref C, .type "object"] false ["obj"] #[some (.ref bt), none, some (.str "K" tk), some (.str ql (t.getD 3 0)), some (.builtin "object.__new__"), some (.bool false)]) g10 (by decide) (by kernel_rfl) rfl fun u11 c11 g11 => ?_)
  have g11n := (c11.same.2 N nNC).trans g10n
  refine KFB.if_not rfl ?_
  refine KFB.if_not rfl ?_
  refine wpAny_bind (rNsGet (r := none) g11n (by kernel_rfl) ?_)
  refine KFB.if_so rfl ?_
  refine wpAny_bind (rNsSet g11n (by kernel_rfl) fun u12 td c12 g12 => ?_)
  have g12n := g12 (kNs h t ml fl ls f1 f2 f3 f4 f5 f6 tu [⟨hs, .str "obj" to, .ref D⟩, ⟨PyData.keyHash w.params "__doc__", .str "__doc__" td, .none⟩] 3) (by kernel_rfl) rfl
  have g12c := (c12.same.2 C (Ne.symm nNC)).trans g11
  refine wpAny_bind (rNsGet (r := some (.ref f4)) g12n (by kernel_rfl) ?_)
  refine KFB.if_so rfl ?_
  refine wpAny_bind (rNsGet (r := some .none) g12n (by kernel_rfl) ?_)
  refine KFB.if_not rfl ?_
  refine rEq (a := PUnit.unit) (by kernel_rfl) ?_
  refine wpAny_bind (wpAny_tryCatch (wpAny_holding (Wp.any ?_)))
  have kk : Kept s u12 := ⟨fun (b : Nat) o e => by
    have e1 := k1.keep b o e
    have hb : (b : Nat) < u1.heap.objs.size := Heap.lt_size e1
    have bN : b ≠ N := Nat.ne_of_lt (by omega)
    have bC : b ≠ C := Nat.ne_of_lt (by omega)
    have e9 : u9.heap.get? b = some o := (c9.same.2 b bC).trans ((c8.same.2 b bC).trans ((c7.same.2 b bN).trans ((c6.same.2 b bC).trans ((c5.same.2 b bC).trans ((c4.same.2 b bC).trans (k3.keep _ _ (k2.keep _ _ e1)))))))
    exact (c12.same.2 b bN).trans ((c11.same.2 b bC).trans (k10 b o bC bN e9)),
    c12.gens.trans (c11.gens.trans (e1.trans (c9.gens.trans (c8.gens.trans (c7.gens.trans (c6.gens.trans (c5.gens.trans (c4.gens.trans (k3.gens.trans (k2.gens.trans k1.gens)))))))))),
    c12.drawn.trans (c11.drawn.trans (e2.trans (c9.drawn.trans (c8.drawn.trans (c7.drawn.trans (c6.drawn.trans (c5.drawn.trans (c4.drawn.trans (k3.drawn.trans (k2.drawn.trans k1.drawn)))))))))),
    c12.os.trans (c11.os.trans (e3.trans (c9.os.trans (c8.os.trans (c7.os.trans (c6.os.trans (c5.os.trans (c4.os.trans (k3.os.trans (k2.os.trans k1.os))))))))))⟩
  have fresh : ∀ b o, s.heap.get? b = some o → b ≠ C ∧ b ≠ N ∧ b ≠ D := fun (b : Nat) o e => by
    have e1 := k1.keep b o e
    have hb : (b : Nat) < u1.heap.objs.size := Heap.lt_size e1
    have bN : b ≠ N := Nat.ne_of_lt (by omega)
    have bC : b ≠ C := Nat.ne_of_lt (by omega)
    have e9 : u9.heap.get? b = some o := (c9.same.2 b bC).trans ((c8.same.2 b bC).trans ((c7.same.2 b bN).trans ((c6.same.2 b bC).trans ((c5.same.2 b bC).trans ((c4.same.2 b bC).trans (k3.keep _ _ (k2.keep _ _ e1)))))))
    have h9 : (b : Nat) < u9.heap.objs.size := Heap.lt_size e9
    exact ⟨bC, bN, Nat.ne_of_lt (by omega)⟩
  have Dlt : (D : Nat) < u10.heap.objs.size := Heap.lt_size g10d
  have Cl9 : (C : Nat) < u9.heap.objs.size := Heap.lt_size g9
  have nDN : D ≠ N := Nat.ne_of_gt (by omega)
  have nDC : D ≠ C := Nat.ne_of_gt (by omega)
  have g12d := (c12.same.2 D nDN).trans ((c11.same.2 D nDC).trans g10d)
  refine wpAny_bind (wpAny_dictEntries g12n rfl ?_)
  refine rEq (a := false) (by kernel_rfl) ?_
  refine KFB.if_not rfl ?_
  refine wpAny_bind (wpAny_dictEntries g12n rfl ?_)
  refine wpAny_bind ?_
  rw [List.forIn_toArray]
  refine forInStill (fun e he Q' hq => ?_) ?_
  · simp only [kEnts2, List.cons_append, List.nil_append, List.mem_cons, List.not_mem_nil, or_false] at he
    rcases he with rfl | rfl | rfl | rfl | rfl | rfl | rfl | rfl | rfl | rfl | rfl | rfl | rfl
    · exact KFB.if_not (by kernel_rfl) (wpAny_bind (setName typeIs_str sn_str (wpAny_pure hq)))
    · exact KFB.if_not (by kernel_rfl) (wpAny_bind (setName typeIs_int sn_int (wpAny_pure hq)))
    · exact KFB.if_not (by kernel_rfl) (wpAny_bind (setName (T := "list") ⟨_, kk.keep _ _ hls, rfl⟩ sn_list (wpAny_pure hq)))
    · exact KFB.if_not (by kernel_rfl) (wpAny_bind (setName (typeIs_kept hf1 kk) sn_function (wpAny_pure hq)))
    · exact KFB.if_not (by kernel_rfl) (wpAny_bind (setName (typeIs_kept hf2 kk) sn_function (wpAny_pure hq)))
    · exact KFB.if_not (by kernel_rfl) (wpAny_bind (setName (typeIs_kept hf3 kk) sn_function (wpAny_pure hq)))
    · exact KFB.if_not (by kernel_rfl) (wpAny_bind (setName (typeIs_kept hf4 kk) sn_function (wpAny_pure hq)))
    · exact KFB.if_not (by kernel_rfl) (wpAny_bind (setName (typeIs_kept hf5 kk) sn_function (wpAny_pure hq)))
    · exact KFB.if_not (by kernel_rfl) (wpAny_bind (setName (typeIs_kept hf6 kk) sn_function (wpAny_pure hq)))
    · exact KFB.if_not (by kernel_rfl) (wpAny_bind (setName typeIs_none sn_none (wpAny_pure hq)))
    · exact KFB.if_not (by kernel_rfl) (wpAny_bind (setName (typeIs_kept htu kk) sn_tuple (wpAny_pure hq)))
    · exact KFB.if_not (by kernel_rfl) (wpAny_bind (setName (T := "member_descriptor") ⟨_, g12d, rfl⟩ sn_md (wpAny_pure hq)))
    · exact KFB.if_not (by kernel_rfl) (wpAny_bind (setName typeIs_none sn_none (wpAny_pure hq)))
  obtain ⟨hp12, gg, dd, tt, oo⟩ := u12
  subst hql
  refine wpAny_bind (super_run g12c fun S h13 D13 => ?_)
  have k13 : Kept (⟨hp12, gg, dd, tt, oo⟩ : Shared) ⟨h13, gg, dd, tt, oo⟩ := memKept D13
  have g13s := (D13.nw (S, _) (.head _)).1
  refine wpAny_bind (wpAny_holding (getattr_initsub ((X.keeps kk.keep).keeps k13.keep) g13s (k13.keep _ _ g12c) fun f u14 k14 g14 => ?_))
  obtain ⟨hp14, gg4, dd4, tt4, oo4⟩ := u14
  refine wpAny_bind (initsub_call (k14.keep _ _ (k13.keep _ _ g12c)) g14 fun v h15 news D15 => ?_)
  have k15 : Kept (⟨hp14, gg4, dd4, tt4, oo4⟩ : Shared) ⟨h15, gg4, dd4, tt4, oo4⟩ := memKept D15
  refine wpAny_pure ?_
  have k1215 : Kept (⟨hp12, gg, dd, tt, oo⟩ : Shared) ⟨h15, gg4, dd4, tt4, oo4⟩ := (k13.trans k14).trans k15
  exact wpAny_pure (hQ C N D _ hs _ to td tm _ (kk.trans k1215) fresh nNC nDN nDC rfl (k1215.keep _ _ g12c) (k1215.keep _ _ g12n) (k1215.keep _ _ g12d))
end
end Kk
end

/-! ### W16 -/
section
open PySem PySem.W PySem.Calls PyProof.Rows PySem.Spec Builtin
set_option maxRecDepth 100000
set_option maxHeartbeats 2000000
namespace Kk
section
variable {prog : Program} {w : World} {A : Around} {s : Shared}
theorem tn_entry : entryFor table "type.__new__" = some Builtin.«type.__new__» := entryFor_of_tree (by kernel_rfl)
theorem tn_plain : plainId "type.__new__" = true := by decide +kernel
theorem tn_check (a b c : Value) : checkBuiltinCall "type.__new__" ⟨[.type "type", a, b, c], []⟩ = pure () := by kernel_rfl
theorem ti_slot : Slot "type" "__init__" "type.__init__" := .of (owner := "type") (n := "__init__") (by rw [typeLookup_type, builtinLookup_eq_fast]; kernel_rfl) (by decide +kernel) (by decide +kernel) (by decide +kernel)
  (by first | exact .inl (by decide +kernel) | exact .inr (by decide +kernel)) (by rw [isSubtype_type]; kernel_rfl)
theorem ti_entry : entryFor table "type.__init__" = some Builtin.«type.__init__» := entryFor_of_tree (by kernel_rfl)
theorem ti_args (a b c d : Value) : argsOk "type.__init__" ⟨[a, b, c, d], []⟩ := by unfold argsOk; kernel_rfl
theorem ti_run (a b c d : Value) : Builtin.«type.__init__» ⟨[a, b, c, d], []⟩ = pure (.done (.ret .none)) := by kernel_rfl
theorem mro_type : mroOf (.type "type") = pure [.type "type", .type "object"] := by rw [mroOf_type]; kernel_rfl
theorem made_type : Bind.madeBy (.type "type") = pure (some "type.__new__") := by kernel_rfl
theorem sub_type_type : isSubtype (.type "type") (.type "type") = pure true := by rw [isSubtype_type]; kernel_rfl
theorem type_call (X : (KF w.params).In s.heap) {na bt ls f1 f2 f3 f4 f5 f6 tu n : Nat} {h : Array Int} {t : Array Tok} {ml ql : Str} {fl : Int} {tk t0 : Tok} {Q : Value → Shared → Prop} (hql : ql = "cmp_to_key.<locals>.K")
    (hA : A.handled = none) (hna : s.heap.get? na = some { cls := .type "dict", data := .dict (kEnts h t ml ql fl ls f1 f2 f3 f4 f5 f6 tu).toArray n }) (hbt : s.heap.get? bt = some { cls := .type "tuple", data := .seq #[.type "object"] })
    (hls : s.heap.get? ls = some { cls := .type "list", data := .seq #[.str "obj" t0] }) (hn1 : 1 < na)
    (hf1 : s.TypeIs (.ref f1) "function") (hf2 : s.TypeIs (.ref f2) "function") (hf3 : s.TypeIs (.ref f3) "function") (hf4 : s.TypeIs (.ref f4) "function") (hf5 : s.TypeIs (.ref f5) "function") (hf6 : s.TypeIs (.ref f6) "function") (htu : s.TypeIs (.ref tu) "tuple")
    (hQ : ∀ (C N D : Nat) u (hs hd : Int) (to td tm : Tok) sl, Kept s u → (∀ b o, s.heap.get? b = some o → b ≠ C ∧ b ≠ N ∧ b ≠ D) → N ≠ C → D ≠ N → D ≠ C → (sl[4]?).join = some (.builtin "object.__new__") →
      u.heap.get? C = some (kC N "cmp_to_key.<locals>.K" [.ref C, .type "object"] false ["obj"] sl) →
      u.heap.get? N = some (kNs h t ml fl ls f1 f2 f3 f4 f5 f6 tu [⟨hs, .str "obj" to, .ref D⟩, ⟨hd, .str "__doc__" td, .none⟩] 3) →
      u.heap.get? D = some { cls := .type "member_descriptor", data := .fields #[.str "obj" tm, .ref C, .builtin "proto.slot", .builtin "proto.slot#set", .int 0 0] } → Q (.ref C) u) :
    Wp prog w A (call (.type "type") [.str "K" tk, .ref bt, .ref na]) Q s := by
  refine wpAny_call (codeAny_of_tree ?_)
  show wpAny _ _ (callAny (.type "type") _) _ _ _
  refine wpAny_pure ⟨Code.quiet_builtin _ (by decide +kernel), codeAny_builtin PySem.F.entry_type_call ?_⟩
  rw [Around.under_plain (weight_type_call_type "type" _ []) rfl]
  unfold Builtin.«type.__call__»
  refine KFB.if_so (by rfl) ?_
  refine KFB.if_not (by rfl) ?_
  refine KFB.if_not (by rfl) ?_
  dsimp only
  refine KFB.if_not (by kernel_rfl) ?_
  refine rEq (a := ()) (by kernel_rfl) ?_
  refine rEq mro_type ?_
  refine KFB.if_not rfl ?_
  refine rEq made_type ?_
  dsimp only
  refine wpAny_bind (wpAny_pure ?_)
  refine wpAny_bind (wpAny_holding (wpAny_call (codeAny_call_builtin tn_plain tn_entry (wpAny_of_eq (tn_check _ _ _) ?_))))
  refine Wp.any (type_new X hql hA hna hbt hls hn1 hf1 hf2 hf3 hf4 hf5 hf6 htu fun C N D u hs hd to td tm sl ku fresh n1 n2 n3 hsl gC gN gD => ?_)
  dsimp only
  refine wpAny_bind (wpAny_isInstance ⟨_, gC, rfl⟩ sub_type_type ?_)
  refine KFB.if_not rfl ?_
  refine wpAny_bind (wpAny_holding ?_)
  refine wpAny_callSpecial?_slot (name := Str.ofString "__init__") ⟨_, gC, rfl⟩ ti_slot (wpAny_call_entry ti_slot ⟨_, gC, rfl⟩ ti_entry ?_ (ti_args _ _ _ _))
  rw [ti_run]
  refine wpAny_pure ⟨_, rfl, ?_⟩
  dsimp only
  refine KFB.if_not rfl ?_
  exact wpAny_pure (hQ C N D u hs hd to td tm sl ku fresh n1 n2 n3 hsl gC gN gD)
end
end Kk
end

/-! ### W16b -/
section
open PySem PySem.W PySem.Calls PyProof.Rows PySem.Spec Builtin
set_option maxRecDepth 100000
set_option maxHeartbeats 8000000
namespace Kk
section
variable {prog : Program} {w : World} {A : Around} {s : Shared}
local macro_rules | `(tactic| x_close) => `(tactic| (first | (apply_assumption; assumption) | (apply_assumption; exact X.Mem.start _)))
theorem prep_get {hp : Heap} {g : Array GenState} {d : Drawn} {tk : Nat} {os : OsState} {Q : Value → Shared → Prop}
   (hQ : ∀ (a : Nat) h, X.Mem hp h [] [(a, { cls := .type "builtin_function_or_method", data := .fields #[.builtin "type.__prepare__", .type "type"] })] → Q (.ref a) ⟨h, g, d, tk, os⟩) :
   wpAny (model prog w) A (call (.builtin "classmethod_descriptor.__get__") [.builtin "type.__prepare__", .none, .type "type"]) Q (fun _ _ => False) ⟨hp, g, d, tk, os⟩ := by
  x_run
theorem prep_entry : entryFor table "type.__prepare__" = some Builtin.«type.__prepare__» := entryFor_of_tree (by kernel_rfl)
theorem prep_quiet {as : Args} : (Code.builtin "type.__prepare__" as).quiet = true := Code.quiet_builtin _ (by decide +kernel)
theorem prep_check {tn : Tok} {bt : Nat} : checkBoundCall "type.__prepare__" ⟨[.type "type", .str "K" tn, .ref bt], []⟩ = pure () := by kernel_rfl
theorem prep_call {f bt : Nat} {tn : Tok} {Q : Value → Shared → Prop} (gf : s.heap.get? f = some { cls := .type "builtin_function_or_method", data := .fields #[.builtin "type.__prepare__", .type "type"] })
   (hQ : ∀ (a : Nat) u, a = s.heap.objs.size → Kept s u → u.heap.objs.size = a + 1 → u.heap.get? a = some { cls := .type "dict", data := .dict #[] } → Q (.ref a) u) :
   Wp prog w A (call (.ref f) [.str "K" tn, .ref bt]) Q s := by
  refine wpAny_call (codeAny_of_tree ?_)
  show wpAny _ A.in1 (callAny (.ref f) ⟨[.str "K" tn, .ref bt], []⟩) _ _ s
  simp only [callAny]
  refine wpAny_bind (wpAny_load gf ?_)
  refine KFB.if_so (by decide) ?_
  dsimp only
  refine KFB.if_so (by decide) ?_
  refine wpAny_bind (wpAny_of_eq (a := ()) prep_check ?_)
  refine wpAny_bind (wpAny_pure (wpAny_pure ?_))
  refine ⟨prep_quiet, codeAny_builtin prep_entry ?_⟩
  unfold Builtin.«type.__prepare__»
  refine wpAny_bind ?_
  unfold newDict
  refine wpAny_newObj_type ?_
  exact wpAny_pure (hQ _ _ rfl (Kept.push _) (Heap.size_push ..) (Heap.get?_push_size _ rfl))
theorem getPrepare (X : (KF w.params).In s.heap) {Q : Option Value → Shared → Prop}
    (hQ : ∀ (f : Nat) u, Kept s u → u.heap.get? f = some { cls := .type "builtin_function_or_method", data := .fields #[.builtin "type.__prepare__", .type "type"] } → Q (some (.ref f)) u) : Wp prog w A (getAttr? (.type "type") "__prepare__") Q s := by
  have hstub : opaqueClassAbove (.type "type") = pure none := by unfold opaqueClassAbove; dsimp only; rw [show Manifest.isStub "type" = false by decide +kernel]; rfl
  have ht : typeOf (.type "type") = pure (.type "type") := by kernel_rfl
  unfold getAttr? getAttrBy?
  refine wpAny_bind (wpAny_mkText ?_)
  have k1 : Kept s { s with toks := s.toks + 1 } := Kept.tok _
  generalize hu : ({ s with toks := s.toks + 1 } : Shared) = u at k1 ⊢
  have Xu := X.keeps k1.keep
  have LO : Looks (model prog w) u.heap (opaqueClassAbove (.type "type")) none := Looks.of_pure hstub
  have L0 : Looks (model prog w) u.heap (typeOf (.type "type")) (.type "type") := Looks.of_pure ht
  refine wpAny_bind (wpAny_attempt ?_)
  unfold getAttrBy
  refine wpAny_holding (wpAny_bind (wpAny_of_eq ht (wpAny_bind (wpAny_of_eq PySem.W.KF.slot_tga.lookup ?_))))
  dsimp only
  rw [show (onTheHeap (.type "type") && Value.builtin "type.__getattribute__" == Value.builtin "object.__getattribute__") = false from by decide +kernel, if_neg (by decide)]
  unfold getAttrByItsOwn hookBefore
  refine wpAny_bind ?_
  rw [if_neg (by simp [onTheHeap])]
  refine wpAny_pure (wpAny_bind (wpAny_attempt (wpAny_holding ?_)))
  unfold callGetattribute
  rw [if_neg (by simp)]
  unfold boundAndCalled
  rw [PySem.W.KF.slot_tga.bind]
  refine wpAny_bind (wpAny_pure ?_)
  show wpAny _ _ (call (.builtin "type.__getattribute__") [.type "type", .str "__prepare__" s.toks]) _ _ _
  refine wpAny_call ?_
  refine codeAny_call_builtin PySem.W.KF.slot_tga.plain PySem.W.KF.entry_tga ?_
  refine @check_slot (model prog w) _ _ u "type.__getattribute__" "type" "__getattribute__" (.type "type") [.str "__prepare__" s.toks] [] _ (by decide +kernel) (by decide +kernel) (L0.andThen (looks_subIn (K := KF w.params) Xu (by kernel_rfl))) (PySem.W.KF.args_tga (.type "type") (.str "__prepare__" s.toks)) ?_
  have hf : findCls [] (.type "type") (.type "type") "__prepare__" = some (.get (.builtin "classmethod_descriptor.__get__") (.builtin "type.__prepare__") .none (.type "type")) := by kernel_rfl
  refine tga_run (s := u) (K := []) (c := .type "type") (name := "__prepare__") (tk := s.toks) (mc := .type "type") (fun _ _ e => by cases e) LO L0 hf ?_
  unfold CFound.run
  dsimp only
  obtain ⟨hp, g, d, tk, os⟩ := u
  refine wpAny_bind (wpAny_holding (Wp.any (prep_get fun f h D => ?_)))
  have k2 : Kept (⟨hp, g, d, tk, os⟩ : Shared) ⟨h, g, d, tk, os⟩ := memKept D
  refine wpAny_pure ?_
  refine wpAny_pure ?_
  refine wpAny_pure ?_
  exact hQ f _ (k1.trans k2) (D.nw (f, _) (.head _)).1
end
end Kk
end

/-! ### W17 -/
section
open PySem PySem.W PySem.Calls PyProof.Rows PySem.Spec Builtin
set_option maxRecDepth 100000
set_option maxHeartbeats 2000000
namespace Kk
section
variable {prog : Program} {w : World} {H : Heap} {mg mb : Str → Option Value} {A : Around} {s : Shared} {k : Nat} {env : Env} {m : Str → Option Value}
noncomputable abbrev DO (es : List DictEntry) (n : Nat) : Obj := { cls := .type "dict", data := .dict es.toArray n }
theorem rStoreCls {x : Str} {v : Value} {a n n' : Nat} {es : List DictEntry} {Q : Unit → Shared → Prop} (ho : s.heap.get? a = some (DO es n)) (hl : (lookIn x (DO es n)).isSome = true)
    (hp : ∀ tk, Obj.putName x (PyData.keyHash w.params x) (.str x tk) v (DO es n) = DO (es ++ [⟨PyData.keyHash w.params x, .str x tk, v⟩]) n')
    (h : ∀ u tk, Chg a s u → u.heap.get? a = some (DO (es ++ [⟨PyData.keyHash w.params x, .str x tk, v⟩]) n') → Q () u) (hs : storeName env x v = localSet env x v := by rfl) (ha : env.locals = a := by rfl) : Wp prog w A (storeName env x v) Q s := by
  rw [hs]
  unfold localSet
  rw [ha]
  refine wpAny_bind (wpAny_load ho ?_)
  refine KFB.if_so rfl ?_
  exact rNsSet ho hl fun u tk c e => h u tk c (e _ (hp tk) rfl)
theorem rNewTuple {vs : List Value} {Q : Value → Shared → Prop} (hz : vs.length ≤ 1000) (h : ∀ (a : Nat) u, a = s.heap.objs.size → Kept s u → u.heap.objs.size = a + 1 → u.heap.get? a = some { cls := .type "tuple", data := .seq vs.toArray } → Q (.ref a) u) : Wp prog w A (newTuple vs) Q s := by
  unfold newTuple
  exact wpAny_newObj_type (h _ _ rfl (Kept.push _) (Heap.size_push ..) (Heap.get?_push_size _ rfl)) (by show vs.toArray.size ≤ sizeLine; rw [List.size_toArray, sizeLine_eq]; omega)
theorem evalArgsF {M : Model} {E : Value → Shared → Prop} {f : Value} {x : Sem Value} {rest : List (Bool × Sem Value)} {Q : Args → Shared → Prop}
    (h : wpAny M A (spliced ((false, x) :: rest)) (fun vs s' => Q ⟨vs, []⟩ s') E s) : wpAny M A (evalArgs f false ((false, x) :: rest) []) Q E s := by
  unfold evalArgs
  show wpAny M A (spliced ((false, x) :: rest) >>= _) Q E s
  refine wpAny_bind (wpAny_mono h (fun vs s' h' => ?_) fun _ _ x => x)
  refine wpAny_holding ?_
  exact wpAny_bind (wpAny_pure (wpAny_bind (wpAny_pure (wpAny_pure h'))))
end
end Kk
end

/-! ### W18 -/
section
open PySem PySem.W PySem.Calls PyProof.Rows PySem.Spec Builtin
set_option maxRecDepth 100000
set_option maxHeartbeats 2000000
namespace Kk
section
variable {prog : Program} {w : World} {A : Around} {s : Shared} {env : Env}
noncomputable def codeRow (pos : Pos) (c : Nat) : Array Value := #[rawInt pos.line, rawInt pos.col, .ref c]
/-- a code that is not in its text's table yet -/
theorem rCodeAtMiss {c P : Nat} {ps : Array Value} {pos : Pos} {make : CodeContext → Sem Value} {qual : Str} {Q : Value → Shared → Prop} (hc : env.code = .ref c) (hok : s.heap.IsCode c P ps) (htab : s.heap.TableAt c P ps) (hnf : codeAmong pos ps.toList = none)
    (hmake : ∀ ctx (R : Value → Shared → Prop), (∀ (c' P' : Nat) u, Kept s u → s.heap.objs.size ≤ c' → s.heap.objs.size ≤ P' → u.heap.IsCode c' P' #[] → u.heap.TableAt c' P' #[] → u.heap.CodeRec (.ref c') qual → R (.ref c') u) → Wp prog w A (make ctx) R s)
    (hQ : ∀ (c' P' : Nat) u, But P s u → s.heap.objs.size ≤ c' → s.heap.objs.size ≤ P' → u.heap.IsCode c P (ps ++ codeRow pos c') → u.heap.TableAt c P (ps ++ codeRow pos c') → u.heap.IsCode c' P' #[] → u.heap.TableAt c' P' #[] → u.heap.CodeRec (.ref c') qual → Q (.ref c') u) :
    Wp prog w A (codeAt env pos make) Q s := by
  obtain ⟨o, vs, file, tf, flags, tg, inF, text, tt, op, ho, hd, h11, h2, h7, h9, h10, hop, hpd, htr, hne⟩ := id hok
  unfold codeAt
  rw [hc]
  refine KFB.if_not rfl ?_
  refine wpAny_bind (wpAny_fieldsOf ho hd ?_)
  rw [h11]
  refine wpAny_bind (wpAny_fieldsOf hop hpd ?_)
  rw [hnf, h2, h7, h9, h10]
  refine wpAny_bind (hmake _ _ fun c' P' u ku hc' hP' i1 t1 r1 => ?_)
  have hop' := ku.keep _ _ hop
  refine wpAny_bind (wpAny_updateFieldsOfTheText hop' hpd ?_)
  have e1 : op = { cls := .none, data := .fields ps } := Option.some.inj (hop.symm.trans htab.2)
  subst e1
  have hl : (ps ++ codeRow pos c').toList = ps.toList ++ [rawInt pos.line, rawInt pos.col, .ref c'] := by simp [codeRow]
  have eo : Obj.mapFields (fun vs => if (codeAmong pos vs.toList).isSome = true then vs else vs ++ #[rawInt pos.line, rawInt pos.col, .ref c']) { cls := .none, data := .fields ps } = { cls := .none, data := .fields (ps ++ codeRow pos c') } := by
    simp only [Obj.mapFields, hnf]; rfl
  have hget := Heap.get?_update_self (h := u.heap) (Obj.mapFields fun vs => if (codeAmong pos vs.toList).isSome = true then vs else vs ++ #[rawInt pos.line, rawInt pos.col, .ref c']) hop' (by rw [eo]; rfl)
  rw [eo] at hget
  have sb : Heap.SameBut P u.heap (u.heap.update P (Obj.mapFields fun vs => if (codeAmong pos vs.toList).isSome = true then vs else vs ++ #[rawInt pos.line, rawInt pos.col, .ref c'])) := Heap.SameBut.update ..
  generalize u.heap.update P (Obj.mapFields fun vs => if (codeAmong pos vs.toList).isSome = true then vs else vs ++ #[rawInt pos.line, rawInt pos.col, .ref c']) = h2' at hget sb ⊢
  refine wpAny_bind (wpAny_fieldsOf hget rfl ?_)
  rw [hl, codeAmong_snoc _ htr hnf]
  have Pl : (P : Nat) < s.heap.objs.size := Heap.lt_size hop
  have n1 : c' ≠ P := Nat.ne_of_gt (by omega)
  have n2 : P' ≠ P := Nat.ne_of_gt (by omega)
  obtain ⟨⟨oc, vc, hoc, hcc, hdc, h11c⟩, htP⟩ := htab
  refine wpAny_pure (hQ c' P' { u with heap := h2' } ⟨fun b ob nb e => (sb.2 b nb).trans (ku.keep b ob e), ku.gens, ku.drawn, ku.os⟩ hc' hP' ?_ ⟨⟨oc, vc, (sb.2 c hne).trans (ku.keep _ _ hoc), hcc, hdc, h11c⟩, hget⟩ (i1.extBut sb.extBut n1 n2) (t1.sameBut sb n1 n2) ?_)
  · exact ⟨o, vs, file, tf, flags, tg, inF, text, tt, _, (sb.2 c hne).trans (ku.keep _ _ ho), hd, h11, h2, h7, h9, h10, hget, rfl, by rw [hl]; exact TriplesOk_snoc _ _ _ _ htr, hne⟩
  · obtain ⟨c₂, o₂, vs₂, t₂, e₂, g₂, r₂⟩ := r1
    cases e₂
    exact ⟨_, o₂, vs₂, t₂, rfl, (sb.2 c' n1).trans g₂, r₂⟩
theorem rClassMiss {c P : Nat} {ps : Array Value} {pos : Pos} {fl : Nat} {name qual : Str} {scope : Scope} {Q : Value → Shared → Prop} (hc : env.code = .ref c) (hok : s.heap.IsCode c P ps) (htab : s.heap.TableAt c P ps) (hnf : codeAmong pos ps.toList = none)
    (hQ : ∀ (c' P' : Nat) u, But P s u → s.heap.objs.size ≤ c' → s.heap.objs.size ≤ P' → u.heap.IsCode c P (ps ++ codeRow pos c') → u.heap.TableAt c P (ps ++ codeRow pos c') → u.heap.IsCode c' P' #[] → u.heap.TableAt c' P' #[] → u.heap.CodeRec (.ref c') qual → Q (.ref c') u) :
    Wp prog w A (classCode env pos fl name qual scope) Q s := by
  unfold classCode
  exact rCodeAtMiss hc hok htab hnf (fun ctx R k => wpAny_newCodeX fun c' P' h' tk hk h1 h2 i t r => k c' P' { s with heap := h', toks := tk } (Kept.heap hk) h1 h2 i t r) hQ
theorem rFuncMiss {c P : Nat} {ps : Array Value} {pos : Pos} {fl : Nat} {name qual : Str} {p : Arguments} {scope : Scope} {body : FuncBody} {Q : Value → Shared → Prop} (hc : env.code = .ref c) (hok : s.heap.IsCode c P ps) (htab : s.heap.TableAt c P ps) (hnf : codeAmong pos ps.toList = none)
    (hQ : ∀ (c' P' : Nat) u, But P s u → s.heap.objs.size ≤ c' → s.heap.objs.size ≤ P' → u.heap.IsCode c P (ps ++ codeRow pos c') → u.heap.TableAt c P (ps ++ codeRow pos c') → u.heap.IsCode c' P' #[] → u.heap.TableAt c' P' #[] → u.heap.CodeRec (.ref c') qual → Q (.ref c') u) :
    Wp prog w A (functionCode env pos fl name qual p scope body) Q s := by
  unfold functionCode
  exact rCodeAtMiss hc hok htab hnf (fun ctx R k => wpAny_newCodeX fun c' P' h' tk hk h1 h2 i t r => k c' P' { s with heap := h', toks := tk } (Kept.heap hk) h1 h2 i t r) hQ
theorem rClassHit {c P : Nat} {ps : Array Value} {pos : Pos} {fl : Nat} {name qual : Str} {scope : Scope} {v : Value} {Q : Value → Shared → Prop} (hc : env.code = .ref c) (hok : s.heap.IsCode c P ps) (hf : codeAmong pos ps.toList = some v) (hQ : Q v s) :
    Wp prog w A (classCode env pos fl name qual scope) Q s := by
  unfold classCode
  exact wpAny_codeAt_hit hc hok hf hQ
theorem rFuncHit {c P : Nat} {ps : Array Value} {pos : Pos} {fl : Nat} {name qual : Str} {p : Arguments} {scope : Scope} {body : FuncBody} {v : Value} {Q : Value → Shared → Prop} (hc : env.code = .ref c) (hok : s.heap.IsCode c P ps) (hf : codeAmong pos ps.toList = some v) (hQ : Q v s) :
    Wp prog w A (functionCode env pos fl name qual p scope body) Q s := by
  unfold functionCode
  exact wpAny_codeAt_hit hc hok hf hQ
end
end Kk
end

/-! ### W19 -/
section
open PySem PySem.W PySem.Calls PyProof.Rows PySem.Spec Builtin
set_option maxRecDepth 100000
set_option maxHeartbeats 2000000
namespace Kk
noncomputable abbrev Old (H h : Heap) : Prop := ∀ b o, H.get? b = some o → h.get? b = some o
/-- what a table of codes holds: c the code whose table it is, at P -/
structure TabK (h : Heap) (c P : Nat) (ps : Array Value) : Prop where
  hd : CodeHd h c P
  tab : h.get? P = some (tabObj ps)
  ok : TriplesOk ps.toList
theorem TabK.kept {c P : Nat} {ps : Array Value} {s t : Shared} (x : TabK s.heap c P ps) (k : Kept s t) : TabK t.heap c P ps := ⟨x.hd.keeps k.keep, k.keep _ _ x.tab, x.ok⟩
section
variable {prog : Program} {w : World} {H : Heap} {mg mb : Str → Option Value} {A : Around} {s : Shared} {k : Nat} {env : Env}
theorem Base.bAt (B : Base w H mg mb) (o : Old H s.heap) {P : Nat} (hP : H.get? P = none) : s.heap.BuiltinsAt mg P := by
  obtain ⟨bm, ob, h1, h2, h3, h4, h5, h6⟩ := B.bmain
  refine ⟨bm, ob, h1, h2, ?_, ?_, o _ _ h3, h4, h5, h6⟩
  · rintro rfl
    obtain ⟨o', es, ep, e', hd, _⟩ := B.g
    rw [h3] at e'; cases e'
    rw [h6] at hd; cases hd
  · rintro rfl; rw [h3] at hP; cases hP
theorem codeHdBut {c P a : Nat} {h₁ h₂ : Heap} (x : CodeHd h₁ c P) (k : ∀ b o, b ≠ a → h₁.get? b = some o → h₂.get? b = some o) (h : c ≠ a) : CodeHd h₂ c P := by
  obtain ⟨o, vs, file, tf, fl, tg, inF, tx, tt, e, r⟩ := x
  exact ⟨o, vs, file, tf, fl, tg, inF, tx, tt, k c o h e, r⟩
theorem CodeRec.keep {h h' : Heap} {c' : Nat} {qual : Str} (x : h.CodeRec (.ref c') qual) (e : ∀ o, h.get? c' = some o → h'.get? c' = some o) : h'.CodeRec (.ref c') qual := by
  obtain ⟨c₂, o₂, vs₂, t₂, e₂, g₂, r₂⟩ := x
  cases e₂
  exact ⟨_, o₂, vs₂, t₂, rfl, e _ g₂, r₂⟩
theorem rBindCls {x : Str} {v : Value} {a n n' : Nat} {es : List DictEntry} {Q : Unit → Shared → Prop} (ho : s.heap.get? a = some (DO es n)) (hl : (lookIn x (DO es n)).isSome = true)
    (hp : ∀ tk, Obj.putName x (PyData.keyHash w.params x) (.str x tk) v (DO es n) = DO (es ++ [⟨PyData.keyHash w.params x, .str x tk, v⟩]) n')
    (h : ∀ u tk, Chg a s u → u.heap.get? a = some (DO (es ++ [⟨PyData.keyHash w.params x, .str x tk, v⟩]) n') → Q () u) (hs : storeName env x v = localSet env x v) (ha : env.locals = a) : Wp prog w A (bindName env x v) Q s := by
  unfold bindName
  refine wpAny_bind (wpAny_holding (wpAny_point ?_))
  refine wpAny_bind (rStoreCls ho hl hp (fun u tk c e => ?_) hs ha)
  exact wpAny_point (h u tk c e)
/-- a def in the class's body: its code is in the table, or is put there -/
theorem rDefCls (B : Base w H mg mb) (o : Old H s.heap) {c P a n n' : Nat} {ps : Array Value} {es : List DictEntry} {name qual : Str} {params : Arguments} {body : List Stmt} {scope : Scope} {clos : List (Str × Addr)} {pos : Pos} {Q : Flow → Shared → Prop}
    (hexec : PlainDefTree name params body scope pos) (hcl : closureFor scope env = pure clos) (hge : env.globals = mainGlobals) (hcode : env.code = .ref c) (T : TabK s.heap c P ps) (hPn : H.get? P = none) (hP0 : mainGlobals ≠ P) (haP : a ≠ P) (hac : a ≠ c)
    (hha : H.objs.size ≤ a) (hdo : s.heap.get? a = some (DO es n)) (hl : (lookIn name (DO es n)).isSome = true) (hq : qualnameIn env name name = qual)
    (hp : ∀ v tk, Obj.putName name (PyData.keyHash w.params name) (.str name tk) v (DO es n) = DO (es ++ [⟨PyData.keyHash w.params name, .str name tk, v⟩]) n')
    (hh : codeAmong pos ps.toList = none ∨ ∃ c', codeAmong pos ps.toList = some (.ref c') ∧ s.heap.CodeRec (.ref c') qual)
    (hQ : ∀ (f c' : Nat) (ctv doc : Value) u tk ps', s.heap.objs.size ≤ f → u.gens = s.gens → u.drawn = s.drawn → u.os = s.os → (∀ b o, b ≠ P → b ≠ a → s.heap.get? b = some o → u.heap.get? b = some o) →
      TabK u.heap c P ps' → (ps' = ps ∨ (codeAmong pos ps.toList = none ∧ ps' = ps ++ codeRow pos c')) → codeAmong pos ps'.toList = some (.ref c') → u.heap.CodeRec (.ref c') qual →
      u.heap.get? f = some (fnMade name qual params body scope clos doc ((mg "__name__").getD .none) c' ctv) → u.heap.get? a = some (DO (es ++ [⟨PyData.keyHash w.params name, .str name tk, .ref f⟩]) n') → Q .next u)
    (hs : ∀ v, storeName env name v = localSet env name v := by intro v; rfl) (ha : env.locals = a := by rfl) : Wp prog w A (exec (.FunctionDef name params body [] none [] scope none name pos) env) Q s := by
  rw [hexec, hq]
  refine wpAny_bind (wpAny_standAt (wpAny_bind (wpAny_holding ?_)))
  have hb := B.bAt o hPn
  rcases hh with hh | ⟨c', hh, hrec⟩
  · refine makeFunction_K hcl hge (B.g.keeps o) hcode T.hd T.tab T.ok hh hP0 hb fun c' ctv doc h' tk hx hge' hlt hrec htab => ?_
    have kb : ∀ b ob, b ≠ P → s.heap.get? b = some ob → (h'.push (fnMade name qual params body scope clos doc ((mg "__name__").getD .none) c' ctv)).get? b = some ob := fun b ob nb e => Heap.get?_push_of_some _ (hx b ob nb e)
    refine wpAny_bind (wpAny_standAt (wpAny_bind (rBindCls (a := a) (n' := n') (kb a _ haP hdo) hl (hp _) (fun u tk' cu gu => ?_) (hs _) ha)))
    have hfz : s.heap.objs.size ≤ h'.objs.size := Nat.le_of_lt (Nat.lt_of_le_of_lt hge' hlt)
    have al : (a : Nat) < s.heap.objs.size := Heap.lt_size hdo
    have Pl : (P : Nat) < s.heap.objs.size := Heap.lt_size T.tab
    have nca : c' ≠ a := Nat.ne_of_gt (by (clear Pl hfz hlt ha hha hac haP hP0 hge; omega))
    have nfa : (h'.objs.size : Nat) ≠ a := Nat.ne_of_gt (by (clear nca Pl hfz ha hha hac haP hP0 hge; omega))
    refine wpAny_pure (hQ h'.objs.size c' ctv doc u tk' (ps ++ codeRow pos c') hfz cu.gens cu.drawn cu.os (fun b ob nP na e => (cu.same.2 b na).trans (kb b ob nP e)) ⟨?_, ?_, ?_⟩ (.inr ⟨hh, rfl⟩) ?_ ?_ ?_ gu)
    · exact codeHdBut (a := a) (codeHdBut (a := P) T.hd kb (let ⟨_, _, _, _, _, _, _, _, _, _, _, _, _, _, _, _, _, _, z⟩ := T.hd; z)) (fun b ob nb e => (cu.same.2 b nb).trans e) (Ne.symm hac)
    · exact (cu.same.2 P (Ne.symm haP)).trans (Heap.get?_push_of_some _ htab)
    · rw [show (ps ++ codeRow pos c').toList = ps.toList ++ [rawInt pos.line, rawInt pos.col, .ref c'] by simp [codeRow]]
      exact TriplesOk_snoc _ _ _ _ T.ok
    · rw [show (ps ++ codeRow pos c').toList = ps.toList ++ [rawInt pos.line, rawInt pos.col, .ref c'] by simp [codeRow]]
      exact codeAmong_snoc _ T.ok hh
    · exact CodeRec.keep hrec fun ob e => (cu.same.2 c' nca).trans (Heap.get?_push_of_some _ e)
    · exact (cu.same.2 _ nfa).trans (Heap.get?_push_size _ rfl)
  · refine makeFunction_hit hcl hge (B.g.keeps o) hcode T.hd T.tab T.ok hh hb fun ctv doc h' tk hk hsz => ?_
    have kb : ∀ b ob, s.heap.get? b = some ob → (h'.push (fnMade name qual params body scope clos doc ((mg "__name__").getD .none) c' ctv)).get? b = some ob := fun b ob e => Heap.get?_push_of_some _ (hk b ob e)
    refine wpAny_bind (wpAny_standAt (wpAny_bind (rBindCls (a := a) (n' := n') (kb a _ hdo) hl (hp _) (fun u tk' cu gu => ?_) (hs _) ha)))
    have al : (a : Nat) < s.heap.objs.size := Heap.lt_size hdo
    have nfa : (h'.objs.size : Nat) ≠ a := Nat.ne_of_gt (by (clear ha hha hac haP hP0 hge; omega))
    have nca : c' ≠ a := by
      rintro rfl
      obtain ⟨c₂, o₂, vs₂, t₂, e₂, g₂, r₂⟩ := hrec
      cases e₂
      rw [hdo] at g₂; cases g₂
      exact absurd r₂.1 (by nofun)
    refine wpAny_pure (hQ h'.objs.size c' ctv doc u tk' ps hsz cu.gens cu.drawn cu.os (fun b ob nP na e => (cu.same.2 b na).trans (kb b ob e)) ⟨?_, ?_, T.ok⟩ (.inl rfl) hh ?_ ?_ gu)
    · exact codeHdBut (a := a) (T.hd.keeps kb) (fun b ob nb e => (cu.same.2 b nb).trans e) (Ne.symm hac)
    · exact (cu.same.2 P (Ne.symm haP)).trans (kb _ _ T.tab)
    · exact CodeRec.keep hrec fun ob e => (cu.same.2 c' nca).trans (kb _ _ e)
    · exact (cu.same.2 _ nfa).trans (Heap.get?_push_size _ rfl)
end
end Kk
end

/-! ### W19b -/
section
open PySem PySem.W PySem.Calls PyProof.Rows PySem.Spec Builtin
set_option maxRecDepth 100000
set_option maxHeartbeats 2000000
namespace Kk
theorem codeAmong_other {pos pos' : Pos} {c : Value} (hne : ((pos.line : Int) == pos'.line && (pos.col : Int) == pos'.col) = false) (l : List Value) (h : TriplesOk l) : codeAmong pos' (l ++ [rawInt pos.line, rawInt pos.col, c]) = codeAmong pos' l := by
  fun_induction TriplesOk l with
  | case1 =>
    show (if ((pos.line : Int) == pos'.line && (pos.col : Int) == pos'.col) = true then some c else codeAmong pos' []) = codeAmong pos' []
    rw [hne]; rfl
  | case2 a t b u x rest ih =>
    simp only [List.cons_append, codeAmong]
    split
    · rfl
    · exact ih h
  | case3 l h1 h2 => exact h.elim
end Kk
end

/-! ### W20 -/
section
open PySem PySem.W PySem.Calls PyProof.Rows PySem.Spec Builtin
set_option maxRecDepth 100000
set_option maxHeartbeats 4000000
namespace Kk
noncomputable def kStmt : Stmt := match fdKey.body with | .stmts (s :: _) => s | _ => .Pass default
noncomputable def kScope : Scope := match kStmt with | .ClassDef _ _ _ _ _ _ sc _ _ _ _ => sc | _ => default
noncomputable def kBody : List Stmt := match kStmt with | .ClassDef _ _ _ b _ _ _ _ _ _ _ => b | _ => []
noncomputable def kEnv (na ck fr cc : Nat) : Env := { scope := kScope, locals := na, globals := mainGlobals, cells := [("mycmp", cc)], qual := "cmp_to_key.<locals>.K.", code := .ref ck, frame := some fr, builtins := builtinsNs }
/-- the six defs: place and qualname -/
noncomputable def kQ (i : Nat) : Str := [("cmp_to_key.<locals>.K.__init__" : Str), "cmp_to_key.<locals>.K.__lt__", "cmp_to_key.<locals>.K.__gt__", "cmp_to_key.<locals>.K.__eq__", "cmp_to_key.<locals>.K.__le__", "cmp_to_key.<locals>.K.__ge__"].getD i ""
noncomputable def kP (i : Nat) : Pos := [(⟨8, 8, 9, 26⟩ : Pos), ⟨11, 8, 12, 49⟩, ⟨14, 8, 15, 49⟩, ⟨17, 8, 18, 50⟩, ⟨20, 8, 21, 50⟩, ⟨23, 8, 24, 50⟩].getD i default
noncomputable def kSix : List (Pos × Str) := [(kP 0, kQ 0), (kP 1, kQ 1), (kP 2, kQ 2), (kP 3, kQ 3), (kP 4, kQ 4), (kP 5, kQ 5)]
/-- each of these places is empty or holds a code of its own -/
noncomputable def TabAll (h : Heap) (ps : Array Value) (l : List (Pos × Str)) : Prop := ∀ q ∈ l, codeAmong q.1 ps.toList = none ∨ ∃ c' : Nat, codeAmong q.1 ps.toList = some (.ref c') ∧ h.CodeRec (.ref c') q.2
noncomputable def TabFull (h : Heap) (ps : Array Value) (l : List (Pos × Str)) : Prop := ∀ q ∈ l, ∃ c' : Nat, codeAmong q.1 ps.toList = some (.ref c') ∧ h.CodeRec (.ref c') q.2
theorem TabFull.all {h : Heap} {ps : Array Value} {l : List (Pos × Str)} (x : TabFull h ps l) : TabAll h ps l := fun q hq => .inr (x q hq)
theorem codeRecBut {h₁ h₂ : Heap} {P a : Nat} {c' : Nat} {qual : Str} {es : List DictEntry} {n : Nat} {ps : Array Value} (x : h₁.CodeRec (.ref c') qual) (hP : h₁.get? P = some (tabObj ps)) (hok : TriplesOk ps.toList) (ha : h₁.get? a = some (DO es n))
    (k : ∀ b o, b ≠ P → b ≠ a → h₁.get? b = some o → h₂.get? b = some o) : h₂.CodeRec (.ref c') qual := by
  obtain ⟨c₂, o₂, vs₂, t₂, e₂, g₂, r₂, r₃⟩ := id x
  cases e₂
  refine CodeRec.keep x fun o e => k _ _ ?_ ?_ e
  · rintro rfl
    rw [hP] at g₂; cases g₂
    cases r₂
    rw [← Array.getElem?_toList] at r₃
    revert r₃ hok
    generalize ps.toList = l
    intro hok r₃
    match l, hok, r₃ with
    | .int _ _ :: .int _ _ :: _ :: _, _, r₃ => simp at r₃
  · rintro rfl
    rw [ha] at g₂; cases g₂
    cases r₂
structure BInv (s₀ : Shared) (na ck pk : Nat) (ps0 : Array Value) (news : List (Addr × Obj)) (crs : List (Nat × Str)) (todo done : List (Pos × Str)) (u : Shared) (ps : Array Value) (es : List DictEntry) (n : Nat) : Prop where
  gens : u.gens = s₀.gens
  drawn : u.drawn = s₀.drawn
  os : u.os = s₀.os
  keep : ∀ b o, b ≠ pk → b ≠ na → s₀.heap.get? b = some o → u.heap.get? b = some o
  size : s₀.heap.objs.size ≤ u.heap.objs.size
  T : TabK u.heap ck pk ps
  all : TabAll u.heap ps todo
  full : TabFull u.heap ps done
  same : TabFull s₀.heap ps0 kSix → ps = ps0
  d : u.heap.get? na = some (DO es n)
  nw : ∀ q ∈ news, q.1 ≠ pk ∧ q.1 ≠ na ∧ s₀.heap.objs.size ≤ q.1 ∧ u.heap.get? q.1 = some q.2
  cr : ∀ q ∈ crs, u.heap.CodeRec (.ref q.1) q.2
section
variable {prog : Program} {w : World} {H : Heap} {mg mb : Str → Option Value} {A : Around} {s₀ u : Shared} {k : Nat} {env : Env} {na ck pk : Nat} {ps0 ps : Array Value} {news : List (Addr × Obj)} {crs : List (Nat × Str)} {todo done : List (Pos × Str)} {es : List DictEntry} {n : Nat}
/-- a turn of the namespace or a new object between the defs -/
theorem BInv.chg {es' : List DictEntry} {n' : Nat} {v : Shared} (I : BInv s₀ na ck pk ps0 news crs todo done u ps es n) (c : Chg na u v) (hnp : na ≠ pk) (hnc : na ≠ ck) (hd : v.heap.get? na = some (DO es' n')) : BInv s₀ na ck pk ps0 news crs todo done v ps es' n' where
  gens := c.gens.trans I.gens
  drawn := c.drawn.trans I.drawn
  os := c.os.trans I.os
  keep b o h1 h2 e := (c.same.2 b h2).trans (I.keep b o h1 h2 e)
  size := by rw [c.size]; exact I.size
  T := ⟨codeHdBut (a := na) I.T.hd (fun b o nb e => (c.same.2 b nb).trans e) (Ne.symm hnc), (c.same.2 pk (Ne.symm hnp)).trans I.T.tab, I.T.ok⟩
  all q hq := (I.all q hq).imp id fun ⟨c', h1, h2⟩ => ⟨c', h1, codeRecBut h2 I.T.tab I.T.ok I.d fun b o _ nb e => (c.same.2 b nb).trans e⟩
  full q hq := let ⟨c', h1, h2⟩ := I.full q hq; ⟨c', h1, codeRecBut h2 I.T.tab I.T.ok I.d fun b o _ nb e => (c.same.2 b nb).trans e⟩
  same := I.same
  d := hd
  nw q hq := let ⟨h1, h2, h3, h4⟩ := I.nw q hq; ⟨h1, h2, h3, (c.same.2 _ h2).trans h4⟩
  cr q hq := codeRecBut (I.cr q hq) I.T.tab I.T.ok I.d fun b o _ nb e => (c.same.2 b nb).trans e
theorem BInv.kept {v : Shared} (I : BInv s₀ na ck pk ps0 news crs todo done u ps es n) (c : Kept u v) (hz : u.heap.objs.size ≤ v.heap.objs.size) : BInv s₀ na ck pk ps0 news crs todo done v ps es n where
  gens := c.gens.trans I.gens
  drawn := c.drawn.trans I.drawn
  os := c.os.trans I.os
  keep b o h1 h2 e := c.keep _ _ (I.keep b o h1 h2 e)
  size := Nat.le_trans I.size hz
  T := I.T.kept c
  all q hq := (I.all q hq).imp id fun ⟨c', h1, h2⟩ => ⟨c', h1, h2.keeps c.keep⟩
  full q hq := let ⟨c', h1, h2⟩ := I.full q hq; ⟨c', h1, h2.keeps c.keep⟩
  same := I.same
  d := c.keep _ _ I.d
  nw q hq := let ⟨h1, h2, h3, h4⟩ := I.nw q hq; ⟨h1, h2, h3, c.keep _ _ h4⟩
  cr q hq := (I.cr q hq).keeps c.keep
theorem BInv.new (I : BInv s₀ na ck pk ps0 news crs todo done u ps es n) {a : Nat} {o : Obj} (ha : s₀.heap.objs.size ≤ a) (h1 : a ≠ pk) (h2 : a ≠ na) (e : u.heap.get? a = some o) : BInv s₀ na ck pk ps0 ((a, o) :: news) crs todo done u ps es n :=
  have z : ∀ q ∈ (a, o) :: news, q.1 ≠ pk ∧ q.1 ≠ na ∧ s₀.heap.objs.size ≤ q.1 ∧ u.heap.get? q.1 = some q.2 := by
    intro q hq
    rcases List.mem_cons.mp hq with rfl | hq
    · exact ⟨h1, h2, ha, e⟩
    · exact I.nw q hq
  { I with nw := z }
theorem bodyStep (B : Base w H mg mb) (hO : Old H u.heap) {name qual : Str} {params : Arguments} {body : List Stmt} {scope : Scope} {clos : List (Str × Addr)} {pos : Pos} {n' : Nat} {Q : Flow → Shared → Prop}
    (I : BInv s₀ na ck pk ps0 news crs ((pos, qual) :: todo) done u ps es n) (hin : (pos, qual) ∈ kSix) (hdist : ∀ q ∈ todo ++ done, ((pos.line : Int) == q.1.line && (pos.col : Int) == q.1.col) = false)
    (hexec : PlainDefTree name params body scope pos) (hcl : closureFor scope env = pure clos) (hge : env.globals = mainGlobals) (hcode : env.code = .ref ck) (hPn : H.get? pk = none) (hP0 : mainGlobals ≠ pk) (hnp : na ≠ pk) (hnc : na ≠ ck) (hha : H.objs.size ≤ na)
    (hl : (lookIn name (DO es n)).isSome = true) (hq : qualnameIn env name name = qual)
    (hp : ∀ v tk, Obj.putName name (PyData.keyHash w.params name) (.str name tk) v (DO es n) = DO (es ++ [⟨PyData.keyHash w.params name, .str name tk, v⟩]) n')
    (hQ : ∀ (f c' : Nat) (ctv doc : Value) v tk ps', u.heap.objs.size ≤ f → BInv s₀ na ck pk ps0 ((f, fnMade name qual params body scope clos doc ((mg "__name__").getD .none) c' ctv) :: news) ((c', qual) :: crs) todo ((pos, qual) :: done) v ps' (es ++ [⟨PyData.keyHash w.params name, .str name tk, .ref f⟩]) n' → Q .next v)
    (hs : ∀ v, storeName env name v = localSet env name v := by intro v; rfl) (ha : env.locals = na := by rfl) : Wp prog w A (exec (.FunctionDef name params body [] none [] scope none name pos) env) Q u := by
  refine rDefCls B hO hexec hcl hge hcode I.T hPn hP0 hnp hnc hha I.d hl hq hp (I.all _ (.head _)) (fun f c' ctv doc v tk ps' hf e1 e2 e3 hk T' hps hca hrec gf gd => ?_) hs ha
  have nl := Heap.lt_size I.d
  have pl := Heap.lt_size I.T.tab
  have amo : ∀ q ∈ todo ++ done, codeAmong q.1 ps'.toList = codeAmong q.1 ps.toList := fun q hq => by
    rcases hps with rfl | ⟨_, rfl⟩
    · rfl
    · rw [show (ps ++ codeRow pos c').toList = ps.toList ++ [rawInt pos.line, rawInt pos.col, .ref c'] by simp [codeRow]]
      exact codeAmong_other (hdist q hq) _ I.T.ok
  have rec' : ∀ (c₁ : Nat) q, u.heap.CodeRec (.ref c₁) q → v.heap.CodeRec (.ref c₁) q := fun c₁ q h => codeRecBut h I.T.tab I.T.ok I.d hk
  refine hQ f c' ctv doc v tk ps' hf
    { gens := e1.trans I.gens, drawn := e2.trans I.drawn, os := e3.trans I.os, keep := fun b o h1 h2 e => hk b o h1 h2 (I.keep b o h1 h2 e), size := Nat.le_of_lt (Nat.lt_of_le_of_lt (Nat.le_trans I.size hf) (Heap.lt_size gf)), T := T', all := fun q hq => ?_, full := fun q hq => ?_, same := fun hF => ?_, d := gd, nw := fun q hq => ?_, cr := fun q hq => ?_ }
  · rw [amo q (List.mem_append_left _ hq)]
    exact (I.all q (.tail _ hq)).imp id fun ⟨c₁, h1, h2⟩ => ⟨c₁, h1, rec' _ _ h2⟩
  · rcases List.mem_cons.mp hq with rfl | hq
    · exact ⟨c', hca, hrec⟩
    · obtain ⟨c₁, h1, h2⟩ := I.full q hq
      exact ⟨c₁, (amo q (List.mem_append_right _ hq)).trans h1, rec' _ _ h2⟩
  · have e := I.same hF
    rcases hps with rfl | ⟨hn, _⟩
    · exact e
    · obtain ⟨c₁, h1, _⟩ := hF _ hin
      rw [e] at hn
      rw [hn] at h1; cases h1
  · rcases List.mem_cons.mp hq with rfl | hq
    · exact ⟨Nat.ne_of_gt (Nat.lt_of_lt_of_le pl hf), Nat.ne_of_gt (Nat.lt_of_lt_of_le nl hf), Nat.le_trans I.size hf, gf⟩
    · obtain ⟨h1, h2, h3, h4⟩ := I.nw q hq
      exact ⟨h1, h2, h3, hk _ _ h1 h2 h4⟩
  · rcases List.mem_cons.mp hq with rfl | hq
    · exact hrec
    · exact rec' _ _ (I.cr q hq)
end
end Kk
end

/-! ### W21 -/
section
open PySem PySem.W PySem.Calls PyProof.Rows PySem.Spec Builtin
set_option maxRecDepth 100000
set_option maxHeartbeats 4000000
namespace Kk
section
variable {prog : Program} {w : World} {H : Heap} {mg mb : Str → Option Value} {A : Around} {s : Shared} {k : Nat} {env : Env}
theorem rStoreClsG {x : Str} {v : Value} {a n : Nat} {es : List DictEntry} {o' : Tok → Obj} {Q : Unit → Shared → Prop} (ho : s.heap.get? a = some (DO es n)) (hl : (lookIn x (DO es n)).isSome = true)
    (hp : ∀ tk, Obj.putName x (PyData.keyHash w.params x) (.str x tk) v (DO es n) = o' tk) (hf : ∀ tk, (o' tk).isFreed = false)
    (h : ∀ u tk, Chg a s u → u.heap.get? a = some (o' tk) → Q () u) (hs : storeName env x v = localSet env x v := by rfl) (ha : env.locals = a := by rfl) : Wp prog w A (storeName env x v) Q s := by
  rw [hs]
  unfold localSet
  rw [ha]
  refine wpAny_bind (wpAny_load ho ?_)
  refine KFB.if_so rfl ?_
  exact rNsSet ho hl fun u tk c e => h u tk c (e _ (hp tk) (hf tk))
theorem rNewListObj {vs : List Value} {Q : Value → Shared → Prop} (hz : vs.length ≤ 1000) (h : ∀ (a : Nat) u, a = s.heap.objs.size → Kept s u → u.heap.objs.size = a + 1 → u.heap.get? a = some { cls := .type "list", data := .seq vs.toArray } → Q (.ref a) u) : Wp prog w A (newList vs) Q s := by
  unfold newList
  exact wpAny_newObj_type (h _ _ rfl (Kept.push _) (Heap.size_push ..) (Heap.get?_push_size _ rfl)) (by show vs.toArray.size ≤ sizeLine; rw [List.size_toArray, sizeLine_eq]; omega)
structure KDef where
  params : Arguments
  body : List Stmt
  scope : Scope
noncomputable def kDef (i : Nat) : KDef := match kBody[i]? with | some (.FunctionDef _ p b _ _ _ sc _ _ _) => ⟨p, b, sc⟩ | _ => ⟨⟨[], [], none, [], [], none, []⟩, [], default⟩
noncomputable def kInit : KDef := kDef 2
noncomputable def kLt : KDef := kDef 3
/-- the namespace that the body leaves -/
noncomputable abbrev kFinal (w : World) (h : Array Int) (t : Array Tok) (ml ql : Str) (fl : Int) (ls f1 f2 f3 f4 f5 f6 : Nat) : List DictEntry :=
  [⟨h.getD 0 0, .str "__module__" (t.getD 0 0), .str ml (t.getD 1 0)⟩, ⟨h.getD 1 0, .str "__qualname__" (t.getD 2 0), .str ql (t.getD 3 0)⟩, ⟨h.getD 2 0, .str "__firstlineno__" (t.getD 4 0), .int fl (t.getD 5 0)⟩, ⟨PyData.keyHash w.params "__slots__", .str "__slots__" (t.getD 6 0), .ref ls⟩,
   ⟨PyData.keyHash w.params "__init__", .str "__init__" (t.getD 7 0), .ref f1⟩, ⟨PyData.keyHash w.params "__lt__", .str "__lt__" (t.getD 8 0), .ref f2⟩, ⟨PyData.keyHash w.params "__gt__", .str "__gt__" (t.getD 9 0), .ref f3⟩, ⟨PyData.keyHash w.params "__eq__", .str "__eq__" (t.getD 10 0), .ref f4⟩, ⟨PyData.keyHash w.params "__le__", .str "__le__" (t.getD 11 0), .ref f5⟩, ⟨PyData.keyHash w.params "__ge__", .str "__ge__" (t.getD 12 0), .ref f6⟩,
   ⟨PyData.keyHash w.params "__hash__", .str "__hash__" (t.getD 13 0), .none⟩]
theorem body_spec (B : Base w H mg mb) (o : Old H s.heap) {na ck pk fr cc n : Nat} {ps0 : Array Value} {h0 h1 h2 : Int} {t0 t1 t2 tq tl : Tok} {mn : Value} {ql : Str} {fl : Int} {Q : Flow → Shared → Prop}
    (hPn : H.get? pk = none) (hP0 : mainGlobals ≠ pk) (hnp : na ≠ pk) (hnc : na ≠ ck) (hha : H.objs.size ≤ na) (T : TabK s.heap ck pk ps0) (hall : TabAll s.heap ps0 kSix)
    (hno : s.heap.get? na = some (DO [⟨h0, .str "__module__" t0, mn⟩, ⟨h1, .str "__qualname__" t1, .str ql tq⟩, ⟨h2, .str "__firstlineno__" t2, .int fl tl⟩] n))
    (hQ : ∀ (ls f1 f2 f3 f4 f5 f6 c1 c2 : Nat) (ctv1 doc1 ctv2 doc2 : Value) (v : Shared) (h : Array Int) (t : Array Tok) (tb : Tok) (ps' : Array Value), v.gens = s.gens → v.drawn = s.drawn → v.os = s.os →
      (∀ b o, b ≠ pk → b ≠ na → s.heap.get? b = some o → v.heap.get? b = some o) → s.heap.objs.size ≤ v.heap.objs.size → TabK v.heap ck pk ps' → TabFull v.heap ps' kSix → (TabFull s.heap ps0 kSix → ps' = ps0) →
      v.heap.get? na = some (DO (kFinal w h t "cpy313.functools" ql fl ls f1 f2 f3 f4 f5 f6) (n + 8)) → v.heap.get? ls = some { cls := .type "list", data := .seq #[.str "obj" tb] } →
      (∀ x ∈ [ls, f1, f2, f3, f4, f5, f6], s.heap.objs.size ≤ x ∧ x ≠ na ∧ x ≠ pk) →
      v.heap.get? f1 = some (fnMade "__init__" (kQ 0) kInit.params kInit.body kInit.scope [] doc1 ((mg "__name__").getD .none) c1 ctv1) → v.heap.CodeRec (.ref c1) (kQ 0) →
      v.heap.get? f2 = some (fnMade "__lt__" (kQ 1) kLt.params kLt.body kLt.scope [("mycmp", cc)] doc2 ((mg "__name__").getD .none) c2 ctv2) → v.heap.CodeRec (.ref c2) (kQ 1) →
      v.TypeIs (.ref f3) "function" → v.TypeIs (.ref f4) "function" → v.TypeIs (.ref f5) "function" → v.TypeIs (.ref f6) "function" → Q .next v) :
    Wp prog w A (execs kBody (kEnv na ck fr cc)) Q s := by
  have I0 : BInv s na ck pk ps0 [] [] kSix [] s ps0 _ _ := ⟨rfl, rfl, rfl, fun _ _ _ _ e => e, Nat.le_refl _, T, hall, (fun _ h => nomatch h), fun _ => rfl, hno, (fun _ h => nomatch h), (fun _ h => nomatch h)⟩
  show Wp prog w A (execs (_ :: _) _) _ _
  refine execs_cons (wpAny_Assign_Name (wpAny_Constant_str ?_))
  generalize hu1 : ({ s with toks := s.toks + 1 } : Shared) = u1
  have k1 : Kept s u1 := hu1 ▸ Kept.tok _
  have z1 : s.heap.objs.size ≤ u1.heap.objs.size := by rw [← hu1]; exact Nat.le_refl _
  have I1 := I0.kept k1 z1
  refine rStoreClsG I1.d (by kernel_rfl) (o' := fun tk => DO [⟨h0, .str "__module__" t0, .str "cpy313.functools" s.toks⟩, ⟨h1, .str "__qualname__" t1, .str ql tq⟩, ⟨h2, .str "__firstlineno__" t2, .int fl tl⟩] n) (fun tk => by kernel_rfl) (fun tk => rfl) (fun u2 tk c2 g2 => ?_)
  have I2 := I1.chg c2 hnp hnc g2
  generalize s.toks = ta at I2
  clear I0 I1 g2 c2 hu1
  refine execs_cons (wpAny_Assign_Name (List_ (spliced_cons ?_)))
  refine iteN (show ¬ (false = true) by decide) ?_
  refine wpAny_Constant_str ?_
  refine spliced_nil ?_
  generalize hu3 : ({ u2 with toks := u2.toks + 1 } : Shared) = u3
  have k3 : Kept u2 u3 := hu3 ▸ Kept.tok _
  have z3 : u2.heap.objs.size ≤ u3.heap.objs.size := by rw [← hu3]; exact Nat.le_refl _
  have I3 := I2.kept k3 z3
  generalize u2.toks = tb
  refine rNewListObj (show 1 ≤ 1000 by decide) (fun ls u4 hls k4 z4 g4 => ?_)
  have nl3 : (na : Nat) < u3.heap.objs.size := Heap.lt_size I3.d
  have pl3 : (pk : Nat) < u3.heap.objs.size := Heap.lt_size I3.T.tab
  have I4 := (I3.kept k4 (by (clear pl3 nl3 z3 z1 hha hnc hnp hP0; omega))).new (a := ls) (by have := I3.size; (clear pl3 nl3 z4 z3 z1 hha hnc hnp hP0; omega)) (Nat.ne_of_gt (by (clear nl3 z4 z3 z1 hha hnc hnp hP0; omega))) (Nat.ne_of_gt (by (clear pl3 z4 z3 z1 hha hnc hnp hP0; omega))) g4
  refine rStoreClsG I4.d (by kernel_rfl) (o' := fun tk => DO [⟨h0, .str "__module__" t0, .str "cpy313.functools" ta⟩, ⟨h1, .str "__qualname__" t1, .str ql tq⟩, ⟨h2, .str "__firstlineno__" t2, .int fl tl⟩, ⟨PyData.keyHash w.params "__slots__", .str "__slots__" tk, .ref ls⟩] (n + 1)) (fun tk => by kernel_rfl) (fun tk => rfl) (fun u5 ts c5 g5 => ?_)
  have I5 := I4.chg c5 hnp hnc g5
  clear I3 I4 I2
  have old : ∀ {u ps news crs todo done es n}, BInv s na ck pk ps0 news crs todo done u ps es n → Old H u.heap := fun I b ob e => I.keep b ob (fun q => by subst q; rw [hPn] at e; cases e) (Nat.ne_of_lt (Nat.lt_of_lt_of_le (Heap.lt_size e) hha)) (o b ob e)
  refine execs_cons (bodyStep B (old I5) (todo := [(kP 1, kQ 1), (kP 2, kQ 2), (kP 3, kQ 3), (kP 4, kQ 4), (kP 5, kQ 5)]) (done := []) (n' := n + 2) (clos := []) I5 (by decide) (by decide) (fun _ => rfl) rfl rfl rfl hPn hP0 hnp hnc hha (by kernel_rfl) rfl (fun v tk => by kernel_rfl) (fun f1 c1 ctv1 doc1 u6 tk6 ps1 hf1 I6 => ?_))
  refine execs_cons (bodyStep B (old I6) (todo := [(kP 2, kQ 2), (kP 3, kQ 3), (kP 4, kQ 4), (kP 5, kQ 5)]) (done := [(kP 0, kQ 0)]) (n' := n + 3) (clos := [("mycmp", cc)]) I6 (by decide) (by decide) (fun _ => rfl) rfl rfl rfl hPn hP0 hnp hnc hha (by kernel_rfl) rfl (fun v tk => by kernel_rfl) (fun f2 c2 ctv2 doc2 u7 tk7 ps2 hf2 I7 => ?_))
  refine execs_cons (bodyStep B (old I7) (todo := [(kP 3, kQ 3), (kP 4, kQ 4), (kP 5, kQ 5)]) (done := [(kP 1, kQ 1), (kP 0, kQ 0)]) (n' := n + 4) (clos := [("mycmp", cc)]) I7 (by decide) (by decide) (fun _ => rfl) rfl rfl rfl hPn hP0 hnp hnc hha (by kernel_rfl) rfl (fun v tk => by kernel_rfl) (fun f3 c3 ctv3 doc3 u8 tk8 ps3 hf3 I8 => ?_))
  refine execs_cons (bodyStep B (old I8) (todo := [(kP 4, kQ 4), (kP 5, kQ 5)]) (done := [(kP 2, kQ 2), (kP 1, kQ 1), (kP 0, kQ 0)]) (n' := n + 5) (clos := [("mycmp", cc)]) I8 (by decide) (by decide) (fun _ => rfl) rfl rfl rfl hPn hP0 hnp hnc hha (by kernel_rfl) rfl (fun v tk => by kernel_rfl) (fun f4 c4 ctv4 doc4 u9 tk9 ps4 hf4 I9 => ?_))
  refine execs_cons (bodyStep B (old I9) (todo := [(kP 5, kQ 5)]) (done := [(kP 3, kQ 3), (kP 2, kQ 2), (kP 1, kQ 1), (kP 0, kQ 0)]) (n' := n + 6) (clos := [("mycmp", cc)]) I9 (by decide) (by decide) (fun _ => rfl) rfl rfl rfl hPn hP0 hnp hnc hha (by kernel_rfl) rfl (fun v tk => by kernel_rfl) (fun f5 c5 ctv5 doc5 u10 tk10 ps5 hf5 I10 => ?_))
  refine execs_cons (bodyStep B (old I10) (todo := []) (done := [(kP 4, kQ 4), (kP 3, kQ 3), (kP 2, kQ 2), (kP 1, kQ 1), (kP 0, kQ 0)]) (n' := n + 7) (clos := [("mycmp", cc)]) I10 (by decide) (by decide) (fun _ => rfl) rfl rfl rfl hPn hP0 hnp hnc hha (by kernel_rfl) rfl (fun v tk => by kernel_rfl) (fun f6 c6 ctv6 doc6 u11 tk11 ps6 hf6 I11 => ?_))
  refine execs_cons (wpAny_Assign_Name (wpAny_Constant_none ?_))
  refine rStoreClsG I11.d (by kernel_rfl) (o' := fun tk => DO (kFinal w #[h0, h1, h2] #[t0, ta, t1, tq, t2, tl, ts, tk6, tk7, tk8, tk9, tk10, tk11, tk] "cpy313.functools" ql fl ls f1 f2 f3 f4 f5 f6) (n + 8)) (fun tk => by kernel_rfl) (fun tk => rfl) (fun u12 th c12 g12 => ?_)
  have I12 := I11.chg c12 hnp hnc g12
  clear I5 I6 I7 I8 I9 I10 I11 g12 c12
  refine execs_nil ?_
  have e1 := I12.nw (f1, _) (List.mem_of_getElem? (i := 5) rfl)
  have e2 := I12.nw (f2, _) (List.mem_of_getElem? (i := 4) rfl)
  have e3 := I12.nw (f3, _) (List.mem_of_getElem? (i := 3) rfl)
  have e4 := I12.nw (f4, _) (List.mem_of_getElem? (i := 2) rfl)
  have e5 := I12.nw (f5, _) (List.mem_of_getElem? (i := 1) rfl)
  have e6 := I12.nw (f6, _) (List.mem_of_getElem? (i := 0) rfl)
  have e0 := I12.nw (ls, _) (List.mem_of_getElem? (i := 6) rfl)
  have r1 := I12.cr (c1, kQ 0) (List.mem_of_getElem? (i := 5) rfl)
  have r2 := I12.cr (c2, kQ 1) (List.mem_of_getElem? (i := 4) rfl)
  refine hQ ls f1 f2 f3 f4 f5 f6 c1 c2 ctv1 doc1 ctv2 doc2 u12 _ _ tb ps6 I12.gens I12.drawn I12.os I12.keep I12.size I12.T (fun q hq => I12.full q (show q ∈ kSix.reverse from List.mem_reverse.mpr hq)) I12.same I12.d e0.2.2.2 (fun x hx => ?_) e1.2.2.2 r1 e2.2.2.2 r2 ⟨_, e3.2.2.2, rfl⟩ ⟨_, e4.2.2.2, rfl⟩ ⟨_, e5.2.2.2, rfl⟩ ⟨_, e6.2.2.2, rfl⟩
  simp only [List.mem_cons, List.not_mem_nil, or_false] at hx
  rcases hx with rfl | rfl | rfl | rfl | rfl | rfl | rfl
  · exact ⟨e0.2.2.1, e0.2.1, e0.1⟩
  · exact ⟨e1.2.2.1, e1.2.1, e1.1⟩
  · exact ⟨e2.2.2.1, e2.2.1, e2.1⟩
  · exact ⟨e3.2.2.1, e3.2.1, e3.1⟩
  · exact ⟨e4.2.2.1, e4.2.1, e4.1⟩
  · exact ⟨e5.2.2.1, e5.2.1, e5.1⟩
  · exact ⟨e6.2.2.1, e6.2.1, e6.1⟩
end
end Kk
end

/-! ### W22 -/
section
open PySem PySem.W PySem.Calls PyProof.Rows PySem.Spec Builtin
set_option maxRecDepth 100000
set_option maxHeartbeats 4000000
namespace Kk
noncomputable def kPos : Pos := ⟨4, 4, 25, 23⟩
noncomputable abbrev kQual : Str := "cmp_to_key.<locals>.K"
section
variable {prog : Program} {w : World} {H : Heap} {mg mb : Str → Option Value} {A : Around} {s : Shared} {k : Nat} {env : Env}
theorem But.refl {P : Nat} : But P s s := ⟨fun _ _ _ e => e, rfl, rfl, rfl⟩
theorem rClassK {c P : Nat} {ps : Array Value} {pos : Pos} {fl : Nat} {name qual : Str} {scope : Scope} {six : List (Pos × Str)} {Q : Value → Shared → Prop} (hc : env.code = .ref c) (T : TabK s.heap c P ps)
    (hh : codeAmong pos ps.toList = none ∨ ∃ (ck pk : Nat) (ps' : Array Value), codeAmong pos ps.toList = some (.ref ck) ∧ s.heap.CodeRec (.ref ck) qual ∧ TabK s.heap ck pk ps' ∧ TabFull s.heap ps' six ∧ H.objs.size ≤ ck ∧ H.objs.size ≤ pk ∧ pk ≠ P) (hz : H.objs.size ≤ s.heap.objs.size)
    (hQ : ∀ (ck pk : Nat) (ps' ps2 : Array Value) u, But P s u → s.heap.objs.size ≤ u.heap.objs.size → TabK u.heap c P ps2 → codeAmong pos ps2.toList = some (.ref ck) → u.heap.CodeRec (.ref ck) qual → TabK u.heap ck pk ps' → H.objs.size ≤ ck → H.objs.size ≤ pk → pk ≠ P →
      ((u = s ∧ TabFull u.heap ps' six) ∨ (s.heap.objs.size ≤ pk ∧ s.heap.objs.size ≤ ck ∧ ps' = #[])) → Q (.ref ck) u) : Wp prog w A (classCode env pos fl name qual scope) Q s := by
  rcases hh with hh | ⟨ck, pk, ps', h1, h2, h3, h4, h5, h6, h7⟩
  · have Pl : (P : Nat) < s.heap.objs.size := Heap.lt_size T.tab
    refine rClassMiss hc (T.hd.code T.tab T.ok) (T.hd.tab T.tab) hh fun c' P' u b hc' hP' i1 t1 i2 t2 r => ?_
    have tr : TriplesOk (ps ++ codeRow pos c').toList := by
      obtain ⟨o, vs, file, tf, flags, tg, inF, text, tt, op, a, r1, r2, r3, r4, r5, r6, e1, e2, e3, _⟩ := i1
      exact e3
    refine hQ c' P' #[] _ u b ?_ ⟨CodeHd.of i1 t1, t1.2, tr⟩ ?_ r ⟨CodeHd.of i2 t2, t2.2, trivial⟩ (Nat.le_trans hz hc') (Nat.le_trans hz hP') (Nat.ne_of_gt (Nat.lt_of_lt_of_le Pl hP')) (.inr ⟨hP', hc', rfl⟩)
    · have := Heap.lt_size t2.2
      exact Nat.le_of_lt (Nat.lt_of_le_of_lt hP' this)
    · rw [show (ps ++ codeRow pos c').toList = ps.toList ++ [rawInt pos.line, rawInt pos.col, .ref c'] by simp [codeRow]]
      exact codeAmong_snoc _ T.ok hh
  · refine rClassHit hc (T.hd.code T.tab T.ok) h1 ?_
    exact hQ ck pk ps' ps s But.refl (Nat.le_refl _) T h1 h2 h3 h5 h6 h7 (.inl ⟨rfl, h4⟩)
/-- the code tables that a run fills -/
noncomputable def Tab16 (H h : Heap) : Prop := ∃ ps, TabK h 20 16 ps ∧ (codeAmong kPos ps.toList = none ∨ ∃ (ck pk : Nat) (ps' : Array Value), codeAmong kPos ps.toList = some (.ref ck) ∧ h.CodeRec (.ref ck) kQual ∧ TabK h ck pk ps' ∧ TabFull h ps' kSix ∧ H.objs.size ≤ ck ∧ H.objs.size ≤ pk ∧ pk ≠ 16)
theorem CodeHd.ext {n₀ c P : Nat} {D : Addr → Prop} {h h' : Heap} (x : CodeHd h c P) (e : Ext n₀ D h h') (nd : ¬ D c) : CodeHd h' c P := by
  obtain ⟨o, vs, file, tf, fl, tg, inF, tx, tt, e1, e2, e3, r⟩ := x
  exact ⟨o, vs, file, tf, fl, tg, inF, tx, tt, e.get e1 nd (by rw [e3]; nofun), e2, e3, r⟩
theorem CodeRec.ext {n₀ c' : Nat} {D : Addr → Prop} {h h' : Heap} {qual : Str} (x : h.CodeRec (.ref c') qual) (e : Ext n₀ D h h') (nd : ¬ D c') : h'.CodeRec (.ref c') qual := by
  obtain ⟨c₂, o₂, vs₂, t₂, e₂, g₂, r₂, r₃⟩ := x
  cases e₂
  exact ⟨_, o₂, vs₂, t₂, rfl, e.get g₂ nd (by rw [r₂]; nofun), r₂, r₃⟩
theorem TabK.ext {n₀ c P : Nat} {ps : Array Value} {D : Addr → Prop} {h h' : Heap} (x : TabK h c P ps) (e : Ext n₀ D h h') (nd : ¬ D c) (nP : ¬ D P) : TabK h' c P ps := ⟨CodeHd.ext x.hd e nd, e.get x.tab nP (by nofun), x.ok⟩
theorem Tab16.ext {n₀ : Nat} {h h' : Heap} (x : Tab16 H h) (e : Ext n₀ Dn h h') : Tab16 H h' := by
  obtain ⟨ps, T, hh⟩ := x
  refine ⟨ps, T.ext e id id, hh.imp id ?_⟩
  rintro ⟨ck, pk, ps', h1, h2, h3, h4, h5⟩
  exact ⟨ck, pk, ps', h1, CodeRec.ext h2 e id, h3.ext e id id, fun q hq => let ⟨c', a, b⟩ := h4 q hq; ⟨c', a, CodeRec.ext b e id⟩, h5⟩
theorem Old.but {P : Nat} {t u : Shared} (o : Old H t.heap) (b : But P t u) (hP : H.get? P = none) : Old H u.heap := fun a ob e => b.keep a ob (fun q => by subst q; rw [hP] at e; cases e) (o a ob e)
theorem Old.kept {t u : Shared} (o : Old H t.heap) (b : Kept t u) : Old H u.heap := fun a ob e => b.keep a ob (o a ob e)
theorem nsName (P : Params) : ∃ x t, nsIn (KF P) mainGlobals "__name__" = some (some (.str x t)) := ⟨_, _, rfl⟩
/-- __name__ in the class's body -/
theorem rLoadName {a n : Nat} {es : List DictEntry} {v : Value} {Q : Value → Shared → Prop} (ho : s.heap.get? a = some (DO es n)) (hl : lookIn "__name__" (DO es n) = some none) (hg : s.heap.Ns mainGlobals mg) (hm : mg "__name__" = some v) (h : Q v s)
    (h1 : env.scope.kind.isAnnotationScope = false := by rfl) (h2 : env.blockKind = .class := by rfl) (h3 : env.kindOf "__name__" = none := by rfl) (ha : env.locals = a := by rfl) (hge : env.globals = mainGlobals := by rfl) : Wp prog w A (loadName env "__name__") Q s := by
  unfold loadName
  rw [h1, h2, h3]
  refine KFB.if_not rfl ?_
  dsimp (config := { zeta := false, zetaHave := false }) only
  refine KFB.if_not (by decide) ?_
  unfold localGet
  rw [ha]
  refine wpAny_bind (wpAny_bind (wpAny_load ho ?_))
  refine KFB.if_so rfl ?_
  refine rNsGet ho hl ?_
  exact loadGlobal_global (hge ▸ hg) hm h
structure KDat where
  (N D f1 f2 c1 c2 cc ls f3 f4 f5 f6 tu : Nat)
  h : Array Int
  t : Array Tok
  ml : Str
  fl : Int
  (hs hd : Int)
  (to td tm : Tok)
  sl : Array (Option Value)
  (ctv1 doc1 ctv2 doc2 pm : Value)
noncomputable def kNsObj (k : KDat) : Obj := kNs k.h k.t k.ml k.fl k.ls k.f1 k.f2 k.f3 k.f4 k.f5 k.f6 k.tu [⟨k.hs, .str "obj" k.to, .ref k.D⟩, ⟨k.hd, .str "__doc__" k.td, .none⟩] 3
/-- the class K as cmp_to_key(v) leaves it -/
structure KAt (h : Heap) (C : Nat) (v : Value) (k : KDat) : Prop where
  cls : h.get? C = some (kC k.N kQual [.ref C, .type "object"] false ["obj"] k.sl)
  maker : (k.sl[4]?).join = some (.builtin "object.__new__")
  ns : ∃ sl, h.get? k.N = some { kNsObj k with slots := sl }
  dsc : h.get? k.D = some { cls := .type "member_descriptor", data := .fields #[.str "obj" k.tm, .ref C, .builtin "proto.slot", .builtin "proto.slot#set", .int 0 0] }
  ini : h.get? k.f1 = some (fnMade "__init__" (kQ 0) kInit.params kInit.body kInit.scope [] k.doc1 k.pm k.c1 k.ctv1)
  r1 : h.CodeRec (.ref k.c1) (kQ 0)
  lt : h.get? k.f2 = some (fnMade "__lt__" (kQ 1) kLt.params kLt.body kLt.scope [("mycmp", k.cc)] k.doc2 k.pm k.c2 k.ctv2)
  r2 : h.CodeRec (.ref k.c2) (kQ 1)
  cell : h.IsCell k.cc (some v)
  nNC : k.N ≠ C
  nDN : k.D ≠ k.N
  nDC : k.D ≠ C
theorem KAt.ext {n₀ : Nat} {h h' : Heap} {C : Nat} {v : Value} {k : KDat} (x : KAt h C v k) (e : Ext n₀ Dn h h') : KAt h' C v k where
  cls := e.get x.cls id (by nofun)
  maker := x.maker
  ns := by
    obtain ⟨sl, g⟩ := x.ns
    rcases e _ _ g id with g' | ⟨_, _, sl', g'⟩
    · exact ⟨sl, g'⟩
    · exact ⟨sl', g'⟩
  dsc := e.get x.dsc id (by nofun)
  ini := e.get x.ini id (by nofun)
  r1 := CodeRec.ext x.r1 e id
  lt := e.get x.lt id (by nofun)
  r2 := CodeRec.ext x.r2 e id
  cell := e.cell x.cell id
  nNC := x.nNC
  nDN := x.nDN
  nDC := x.nDC
theorem codeRecAt {h h' : Heap} {c' : Nat} {q : Str} (x : h.CodeRec (.ref c') q) (k : ∀ o vs, h.get? c' = some o → o.data = .fields vs → h'.get? c' = some o) : h'.CodeRec (.ref c') q := by
  obtain ⟨c₂, o₂, vs₂, t₂, e₂, g₂, r₂, r₃⟩ := x
  cases e₂
  exact ⟨_, o₂, vs₂, t₂, rfl, k _ _ g₂ r₂, r₂, r₃⟩
theorem codeHdAt {h h' : Heap} {c P : Nat} (x : CodeHd h c P) (k : ∀ o vs, h.get? c = some o → o.data = .fields vs → h'.get? c = some o) : CodeHd h' c P := by
  obtain ⟨o, vs, file, tf, fl, tg, inF, tx, tt, e, e2, e3, r⟩ := x
  exact ⟨o, vs, file, tf, fl, tg, inF, tx, tt, k _ _ e e3, e2, e3, r⟩
theorem key_spec (B : Base w H mg mb) (H93 : 93 < H.objs.size) {f : Nat} {Q : Value → Shared → Prop} (o : Ok H A s.heap (k + 10)) (T16 : Tab16 H s.heap)
    (hQ : ∀ (C : Nat) u (kd : KDat), Past H.objs.size (· = 16) s u → Tab16 H u.heap → KAt u.heap C (.ref f) kd → H.objs.size ≤ kd.cc → s.heap.objs.size ≤ kd.cc → Q (.ref C) u) : Wp prog w A (call (.ref 21) [.ref f]) Q s := by
  refine callFnC B (k := k + 9) o (f := 21) (fd := fdKey) (binds := [("mycmp", .ref f)]) rfl rfl rfl rfl rfl (by
    intro n x hx
    simp only [List.mem_cons, List.not_mem_nil, or_false] at hx
    rcases hx with rfl
    exact .inr ⟨rfl, rfl⟩) fun L st hL hns0 hcell hp ok => ?_
  have hc := hcell "mycmp" (L + 1) rfl
  generalize A.deeper (callEnvC fdKey L 21) = A1 at ok ⊢
  refine execs_cons ?_
  rw [arm_exec_ClassDef]
  refine rEq (a := ([] : List Value)) (by kernel_rfl) ?_
  refine wpAny_bind (wpAny_standAt ?_)
  refine wpAny_bind ?_
  unfold buildClassGuard
  refine wpAny_bind (wpAny_nsGet (ok.bl B) ?_)
  rw [B.builtins _ (by decide), show bootBuiltins "__build_class__" = some (.builtin "__build_class__") by kernel_rfl]
  refine wpAny_pure ?_
  refine wpAny_bind (wpAny_holding ?_)
  refine wpAny_bind (evalArgsF (spliced_cons (Wp.any (eBuilt B ok (v := .type "object") (by kernel_rfl) (by kernel_rfl) (spliced_nil ?_)))))
  refine wpAny_bind (wpAny_standAt (wpAny_holding ?_))
  unfold buildClass
  dsimp (config := { zeta := false, zetaHave := false }) only
  refine wpAny_bind (rNewTuple (by decide) fun bt u1 hbt k1 z1 g1 => ?_)
  refine rEq (a := ([Value.type "object"], false)) (by kernel_rfl) ?_
  rw [show List.lookup (Str.ofString "metaclass") ([] : List (Str × Value)) = none from rfl]
  dsimp (config := { zeta := false, zetaHave := false }) only
  refine rEq (a := Value.type "type") (by kernel_rfl) ?_
  refine rEq (a := true) (by kernel_rfl) ?_
  refine KFB.if_so rfl ?_
  refine rEq (a := Value.type "type") (by kernel_rfl) ?_
  refine wpAny_bind (wpAny_mkText ?_)
  have k2 : Kept u1 { u1 with toks := u1.toks + 1 } := Kept.tok _
  generalize hu2 : ({ u1 with toks := u1.toks + 1 } : Shared) = u2 at k2 ⊢
  generalize u1.toks = tk
  refine KFB.if_not rfl ?_
  refine wpAny_bind (wpAny_pure (wpAny_holding ?_))
  have ok2 := (ok.kept k1).kept k2
  refine wpAny_bind (getPrepare (ok2.K B) fun pf u3 k3 g3 => ?_)
  dsimp (config := { zeta := false, zetaHave := false }) only
  have hz3 := (ok2.kept k3).size
  refine wpAny_bind (prep_call g3 fun na u4 hna k4 z4 g4 => ?_)
  dsimp (config := { zeta := false, zetaHave := false }) only
  have hna1 : na ≠ 1 := by
    have e := (((ok2.kept k3)).kept k4).size
    (clear e z4 z1 hbt hL; omega)
  refine wpAny_bind (m := notTheModulesDict _ _) ?_
  unfold notTheModulesDict
  refine KFB.if_not (beq_eq_false_iff_ne.mpr hna1) (wpAny_pure ?_)
  refine wpAny_bind (wpAny_specialOf (T := "dict") (r := some (.builtin "dict.__getitem__")) ⟨_, g4, rfl⟩ (by rw [typeLookup_type, builtinLookup_eq_fast]; kernel_rfl) ?_)
  refine KFB.if_not rfl ?_
  refine wpAny_holding ?_
  refine KFB.if_not (by kernel_rfl) ?_
  refine wpAny_bind (wpAny_pure ?_)
  refine KFB.if_not (by kernel_rfl) ?_
  refine wpAny_bind (wpAny_pure ?_)

  have ok4 := (ok2.kept k3).kept k4
  have p4 : Past H.objs.size Dn s u4 := ((((hp.kept k1).kept k2).kept k3).kept k4)
  obtain ⟨ps16, T4, hh4⟩ := T16.ext p4.ext
  refine wpAny_bind (rClassK (H := H) (c := 20) (P := 16) (six := kSix) rfl T4 hh4 ok4.size fun ck pk ps1 ps2 u5 b5 z5 T5 hca5 rec5 Tin hck hpk hpk16 hdis => ?_)
  have old5 : Old H u5.heap := Old.but ok4.old b5 B.no16
  obtain ⟨bm, ob, hbm, hne0, _, _, hbo, hcls, hdict, hdata⟩ := B.bAt old5 B.no16
  refine wpAny_bind (wpAny_builtinsFor (B.g.keeps old5) hbm hne0 hbo hcls hdict hdata ?_)
  unfold newBodyFrame
  refine wpAny_bind (wpAny_bind (wpAny_nsGet (B.g.keeps old5) (rAlloc rfl fun fr u6 hfr k6 z6 g6 => ?_)))
  refine rEq (a := [(("mycmp" : Str), L + 1)]) (by kernel_rfl) ?_
  refine wpAny_holding ?_
  have old6 : Old H u6.heap := Old.kept old5 k6
  refine wpAny_bind (wpAny_enterFrame (B.nolimit.keeps old6) (by have := ok.depth; (clear z6 hfr hne0 hdis hpk16 hpk hck z5 hh4 hna1 z4 hna hz3 z1 hbt hL H93; omega)) ?_)
  refine wpAny_bind (wpAny_onRaise (Wp.any ?_))
  have bz : (na : Nat) < u4.heap.objs.size := Heap.lt_size g4
  have na16 : na ≠ 16 := by have := o.size; have := ok4.size; have e := (ok2.kept k3).size; (clear e this bz z6 hfr hne0 hdis hpk16 hpk hck z5 hh4 hna1 z4 z1 hbt hL; omega)
  have g6n : u6.heap.get? na = some (DO [] 0) := k6.keep _ _ (b5.keep _ _ na16 g4)
  obtain ⟨nx, nt, en⟩ := nsName w.params
  refine wpAny_bind (rLoadName g6n (by kernel_rfl) (B.g.keeps old6) (mg_of B.X B.g en) ?_)
  refine wpAny_bind (rStoreCls (n' := 1) g6n (by kernel_rfl) (fun tk => by kernel_rfl) fun u7 t0 c7 g7 => ?_)
  refine wpAny_bind (wpAny_mkText ?_)
  have g8 : ({ u7 with toks := u7.toks + 1 } : Shared).heap.get? na = _ := g7
  have k8 : Kept u7 { u7 with toks := u7.toks + 1 } := Kept.tok _
  generalize u7.toks = tq at g8 k8 ⊢
  generalize ({ u7 with toks := tq + 1 } : Shared) = u8 at g8 k8 ⊢
  refine wpAny_bind (rStoreCls (n' := 2) g8 (by kernel_rfl) (fun tk => by kernel_rfl) fun u9 t1 c9 g9 => ?_)
  refine wpAny_bind (wpAny_mkInt ?_)
  have g10 : ({ u9 with toks := u9.toks + 1 } : Shared).heap.get? na = _ := g9
  have k10 : Kept u9 { u9 with toks := u9.toks + 1 } := Kept.tok _
  generalize u9.toks = tl at g10 k10 ⊢
  generalize ({ u9 with toks := tl + 1 } : Shared) = u10 at g10 k10 ⊢
  refine wpAny_bind (rStoreCls (n' := 3) g10 (by kernel_rfl) (fun tk => by kernel_rfl) fun u11 t2 c11 g11 => ?_)
  refine wpAny_pure ?_
  dsimp (config := { zeta := false, zetaHave := false }) only
  have b611 : But na u6 u11 := ⟨fun b ob nb e => (c11.same.2 b nb).trans (k10.keep _ _ ((c9.same.2 b nb).trans (k8.keep _ _ ((c7.same.2 b nb).trans e)))),
    c11.gens.trans (k10.gens.trans (c9.gens.trans (k8.gens.trans c7.gens))), c11.drawn.trans (k10.drawn.trans (c9.drawn.trans (k8.drawn.trans c7.drawn))), c11.os.trans (k10.os.trans (c9.os.trans (k8.os.trans c7.os)))⟩
  have hHna : H.objs.size ≤ na := by have := ok2.size; have := (ok2.kept k3).size; (clear this na16 bz z6 hfr hne0 hdis hpk16 hpk hck z5 hh4 hna1 z4 z1 hbt hL H93; omega)
  have old11 : Old H u11.heap := fun b ob e => b611.keep _ _ (Nat.ne_of_lt (Nat.lt_of_lt_of_le (Heap.lt_size e) hHna)) (old6 b ob e)
  have s4 : (s.heap.objs.size : Nat) < u4.heap.objs.size := by
    have e1 : (bt : Nat) < u3.heap.objs.size := Heap.lt_size (k3.keep _ _ (k2.keep _ _ g1))
    have e2 : (L : Nat) < st.heap.objs.size := hns0.lt
    (clear hHna na16 bz z6 hfr hne0 hdis hpk16 hpk hck z5 hh4 hna1 hz3 z1 H93; omega)
  have Tin4 : pk ≠ na ∧ ck ≠ na := by
    rcases hdis with ⟨rfl, _⟩ | ⟨h1, h2, _⟩
    · constructor
      · rintro rfl
        have e := Tin.tab
        rw [g4] at e; cases e
      · rintro rfl
        obtain ⟨o1, vs1, _, _, _, _, _, _, _, e, _, e2, _⟩ := Tin.hd
        rw [g4] at e; cases e; cases e2
    · exact ⟨Nat.ne_of_gt (by (clear h2 s4 hHna na16 bz z6 hfr hne0 hpk16 hpk hck z5 hh4 hna1 hna hz3 z1 hbt hL H93; omega)), Nat.ne_of_gt (by (clear h1 s4 hHna na16 bz z6 hfr hne0 hpk16 hpk hck z5 hh4 hna1 hna hz3 z1 hbt hL H93; omega))⟩
  have hPn : H.get? pk = none := by
    cases e : H.get? pk with
    | none => rfl
    | some ob => exact absurd (Heap.lt_size e) (Nat.not_lt.mpr hpk)
  have hP0 : mainGlobals ≠ pk := by
    rintro rfl
    obtain ⟨o', es, ep, e', _⟩ := B.g
    rw [e'] at hPn; cases hPn
  have Tin11 : TabK u11.heap ck pk ps1 := ⟨codeHdBut (a := na) (Tin.hd.keeps k6.keep) b611.keep Tin4.2, b611.keep _ _ Tin4.1 (k6.keep _ _ Tin.tab), Tin.ok⟩
  have all11 : TabAll u11.heap ps1 kSix ∧ (TabFull u11.heap ps1 kSix ∨ u4.heap.objs.size ≤ pk) := by
    rcases hdis with ⟨rfl, hF⟩ | ⟨h1, h2, rfl⟩
    · have hF' : TabFull u11.heap ps1 kSix := fun q hq => let ⟨c', a, b⟩ := hF q hq; ⟨c', a, codeRecBut (b.keeps k6.keep) (k6.keep _ _ Tin.tab) Tin.ok g6n fun x ob _ nx e => b611.keep x ob nx e⟩
      exact ⟨hF'.all, .inl hF'⟩
    · refine ⟨fun q _ => .inl rfl, .inr ?_⟩
      exact h1
  refine wpAny_bind (wpAny_run (codeAny_body (by rfl) (by rfl) (Wp.anyMono (body_spec (fr := fr) (cc := L + 1) B old11 hPn hP0 (Ne.symm Tin4.1) (Ne.symm Tin4.2) hHna Tin11 all11.1 g11
    (fun ls f1 f2 f3 f4 f5 f6 c1 c2 ctv1 doc1 ctv2 doc2 u12 h t tb ps3 e1 e2 e3 keep12 z12 T12 full12 same12 g12 gls hnew gf1 r1 gf2 r2 y3 y4 y5 y6 => ?_)) (fun _ _ h => h))))
  dsimp (config := { zeta := false, zetaHave := false }) only
  refine wpAny_bind (wpAny_onRaise (Wp.any ?_))
  rw [List.mapM_cons, List.mapM_nil]
  refine wpAny_bind (wpAny_bind (wpAny_mkText ?_))
  have k13 : Kept u12 { u12 with toks := u12.toks + 1 } := Kept.tok _
  have z13 : ({ u12 with toks := u12.toks + 1 } : Shared).heap.objs.size = u12.heap.objs.size := rfl
  generalize u12.toks = tx at k13 z13 ⊢
  generalize ({ u12 with toks := tx + 1 } : Shared) = u13 at k13 z13 ⊢
  refine wpAny_bind (wpAny_pure (wpAny_pure ?_))
  refine wpAny_bind (wpAny_newTextTuple ?_)
  have k14 : Kept u13 { u13 with heap := u13.heap.push { cls := .type "tuple", data := .seq [Value.str (Str.ofString "obj") tx].toArray } } := Kept.push _
  have z14 : ({ u13 with heap := u13.heap.push { cls := .type "tuple", data := .seq [Value.str (Str.ofString "obj") tx].toArray } } : Shared).heap.objs.size = u13.heap.objs.size + 1 := Heap.size_push ..
  have g14 : ({ u13 with heap := u13.heap.push { cls := .type "tuple", data := .seq [Value.str (Str.ofString "obj") tx].toArray } } : Shared).heap.get? u13.heap.objs.size = some { cls := .type "tuple", data := .seq [Value.str (Str.ofString "obj") tx].toArray } := Heap.get?_push_size _ rfl
  generalize ({ u13 with heap := u13.heap.push { cls := .type "tuple", data := .seq [Value.str (Str.ofString "obj") tx].toArray } } : Shared) = u14 at k14 z14 g14 ⊢
  generalize htu : u13.heap.objs.size = tu at g14 z14 ⊢
  have k1214 := k13.trans k14
  refine wpAny_bind (rStoreCls (n' := 12) (k1214.keep _ _ g12) (by kernel_rfl) (fun tk => by kernel_rfl) fun u15 tst c15 g15 => ?_)
  refine wpAny_pure ?_
  refine KFB.if_not rfl ?_
  have b1215 : But na u12 u15 := ⟨fun b ob nb e => (c15.same.2 b nb).trans (k1214.keep _ _ e), c15.gens.trans k1214.gens, c15.drawn.trans k1214.drawn, c15.os.trans k1214.os⟩
  have old15 : Old H u15.heap := fun b ob e => b1215.keep _ _ (Nat.ne_of_lt (Nat.lt_of_lt_of_le (Heap.lt_size e) hHna)) (keep12 b ob (fun q => by subst q; rw [hPn] at e; cases e) (Nat.ne_of_lt (Nat.lt_of_lt_of_le (Heap.lt_size e) hHna)) (old11 b ob e))
  have g15' : u15.heap.get? na = some { cls := .type "dict", data := .dict (kEnts #[h.getD 0 0, h.getD 1 0, h.getD 2 0, PyData.keyHash w.params "__slots__", PyData.keyHash w.params "__init__", PyData.keyHash w.params "__lt__", PyData.keyHash w.params "__gt__", PyData.keyHash w.params "__eq__", PyData.keyHash w.params "__le__", PyData.keyHash w.params "__ge__", PyData.keyHash w.params "__hash__", PyData.keyHash w.params "__static_attributes__"]
      #[t.getD 0 0, t.getD 1 0, t.getD 2 0, t.getD 3 0, t.getD 4 0, t.getD 5 0, t.getD 6 0, t.getD 7 0, t.getD 8 0, t.getD 9 0, t.getD 10 0, t.getD 11 0, t.getD 12 0, t.getD 13 0, tst] "cpy313.functools" kQual 4 ls f1 f2 f3 f4 f5 f6 tu).toArray 12 } := g15
  have hbtna : bt ≠ na := by
    have e1 : (bt : Nat) < u3.heap.objs.size := Heap.lt_size (k3.keep _ _ (k2.keep _ _ g1))
    exact Nat.ne_of_lt (by (clear z14 htu z13 z12 all11 hP0 Tin4 s4 hHna na16 bz z6 hfr hne0 hdis hpk16 hpk hck z5 hh4 hna1 z4 hz3 z1 hbt hL H93; omega))
  have hbt16 : bt ≠ 16 := by
    have := o.size
    have e2 : (L : Nat) < st.heap.objs.size := hns0.lt
    exact Nat.ne_of_gt (by (clear hbtna z14 htu z13 z12 all11 hP0 Tin4 s4 hHna na16 bz z6 hfr hne0 hdis hpk16 hpk hck z5 hh4 hna1 z4 hna hz3 z1; omega))
  have gb5 : u5.heap.get? bt = _ := b5.keep _ _ hbt16 (k4.keep _ _ (k3.keep _ _ (k2.keep _ _ g1)))
  have hbtpk : bt ≠ pk := by
    rintro rfl
    have e := Tin.tab
    rw [gb5] at e; cases e
  have gb15 : u15.heap.get? bt = _ := b1215.keep _ _ hbtna (keep12 _ _ hbtpk hbtna (b611.keep _ _ hbtna (k6.keep _ _ gb5)))
  have hn := fun x hx => (hnew x hx).2.1
  have ty : ∀ {x : Nat} {T}, x ≠ na → u12.TypeIs (.ref x) T → u15.TypeIs (.ref x) T := fun {x T} hx y => let ⟨ob, e, c⟩ := y; ⟨ob, b1215.keep _ _ hx e, c⟩
  refine wpAny_bind (m := call (.type "type") [.str "K" tk, .ref bt, .ref na]) (type_call (fun b ob e => old15 _ _ (B.X b ob e)) rfl ok.handled g15' gb15 (b1215.keep _ _ (hn ls (by simp)) gls) (by have := ok2.size; have := (ok2.kept k3).size; (clear this hbtpk hbt16 hbtna z14 htu z13 z12 all11 hP0 Tin4 s4 hHna na16 bz z6 hfr hne0 hdis hpk16 hpk hck z5 hh4 hna1 z4 z1 hbt hL; omega))
    (ty (hn f1 (by simp)) ⟨_, gf1, rfl⟩) (ty (hn f2 (by simp)) ⟨_, gf2, rfl⟩) (ty (hn f3 (by simp)) y3) (ty (hn f4 (by simp)) y4) (ty (hn f5 (by simp)) y5) (ty (hn f6 (by simp)) y6)
    ⟨_, (c15.same.2 _ (by have : (na : Nat) < u12.heap.objs.size := Heap.lt_size g12; exact Nat.ne_of_gt (by (clear hbtpk hbt16 hbtna z14 z12 all11 hP0 Tin4 s4 hHna na16 bz z6 hfr hne0 hdis hpk16 hpk hck z5 hh4 hna1 z4 hna hz3 z1 hbt hL H93; omega)))).trans g14, rfl⟩ fun C N D u16 hs hd to td tm sl k16 fresh n1 n2 n3 hsl gC gN gD => ?_)
  refine wpAny_pure ?_
  have Lst : (L : Nat) < st.heap.objs.size := hns0.lt
  have b3 : (bt : Nat) < u3.heap.objs.size := Heap.lt_size (k3.keep _ _ (k2.keep _ _ g1))
  have z0 := o.size
  have k04 : Kept st u4 := ((k1.trans k2).trans k3).trans k4
  have t1217 : ∀ b ob, b ≠ na → u12.heap.get? b = some ob → u16.heap.get? b = some ob := fun b ob hb e => k16.keep _ _ (b1215.keep _ _ hb e)
  have big : ∀ b ob, b ≠ 16 → st.heap.get? b = some ob → u16.heap.get? b = some ob := fun (b : Nat) ob h16 e => by
    have hbs : (b : Nat) < st.heap.objs.size := Heap.lt_size e
    have hbn : b ≠ na := Nat.ne_of_lt (by (clear h16 z0 Lst n3 n2 n1 hbtpk hbt16 hbtna z14 htu z13 z12 all11 hP0 Tin4 s4 hHna na16 bz z6 hfr hne0 hdis hpk16 hpk hck z5 hh4 hna1 z4 hz3 z1 hL H93; omega))
    have e4 := k04.keep _ _ e
    have e11 := b611.keep _ _ hbn (k6.keep _ _ (b5.keep _ _ h16 e4))
    refine t1217 _ _ hbn ?_
    by_cases hp : b = pk
    · subst hp
      rcases all11.2 with hF | hn
      · have e2 := T12.tab
        rw [same12 hF, ← Tin11.tab] at e2
        exact e2.trans e11
      · exact absurd (Heap.lt_size e4) (Nat.not_lt.mpr hn)
    · exact keep12 _ _ hp hbn e11
  have p16 : Past H.objs.size (· = 16) s u16 := by
    refine Past.trans hp.weak0 ⟨fun b ob e nd => .inl (big b ob nd e), ?_, ?_, ?_⟩
    · exact k16.gens.trans (b1215.gens.trans (e1.trans (b611.gens.trans (k6.gens.trans (b5.gens.trans k04.gens)))))
    · exact k16.drawn.trans (b1215.drawn.trans (e2.trans (b611.drawn.trans (k6.drawn.trans (b5.drawn.trans k04.drawn)))))
    · exact k16.os.trans (b1215.os.trans (e3.trans (b611.os.trans (k6.os.trans (b5.os.trans k04.os)))))
  have L16 : L ≠ 16 := Nat.ne_of_gt (by (clear b3 Lst n3 n2 n1 hbtpk hbt16 hbtna z14 htu z13 z12 all11 hP0 Tin4 s4 hHna na16 bz z6 hfr hne0 hdis hpk16 hpk hck z5 hh4 hna1 z4 hna hz3 z1 hbt; omega))
  have hnsL : u16.heap.Ns L _ := hns0.at (big L · L16)
  obtain ⟨oL, esL, epL, gL, dL, rL⟩ := hnsL
  refine rEq (a := Value.ref C) (by rfl) ?_
  refine wpAny_bind (wpAny_standAt (wpAny_bind (wpAny_bindName (rStoreLoc (L := L) ⟨oL, esL, epL, gL, dL, rL⟩ (fun u17 c17 g17 => ?_)))))
  refine wpAny_pure ?_
  refine execs_cons (wpAny_Return_some (eLocal g17 (by rfl) ?_))
  have LC := fresh L
  have gL4 : ∃ ob es ep, u4.heap.get? L = some ob ∧ ob.data = .dict es ep := by
    obtain ⟨ob, es, ep, e, d, _⟩ := hns0
    exact ⟨ob, es, ep, k04.keep _ _ e, d⟩
  obtain ⟨o4, es4, ep4, e4, d4⟩ := gL4
  have eL5 := b5.keep _ _ L16 e4
  have Lna : L ≠ na := Nat.ne_of_lt (by (clear rL L16 z0 n3 n2 n1 hbtpk hbt16 hbtna z14 htu z13 z12 all11 hP0 Tin4 s4 hHna na16 bz z6 hfr hne0 hdis hpk16 hpk hck z5 hh4 hna1 z4 hz3 z1 hL H93; omega))
  have Lpk : L ≠ pk := by
    rintro rfl
    have e := Tin.tab
    rw [eL5] at e; cases e; cases d4
  have eL11 := b611.keep _ _ Lna (k6.keep _ _ eL5)
  have eL12 := keep12 _ _ Lpk Lna eL11
  have eL15 := b1215.keep _ _ Lna eL12
  obtain ⟨LnC, LnN, LnD⟩ := fresh _ _ eL15
  have t1617 : ∀ b ob, b ≠ L → u16.heap.get? b = some ob → u17.heap.get? b = some ob := fun b ob hb e => (c17.same.2 b hb).trans e
  have z511 : u5.heap.objs.size ≤ u11.heap.objs.size := by
    have : (fr : Nat) < u11.heap.objs.size := Heap.lt_size (b611.keep _ _ (Nat.ne_of_gt (show (na : Nat) < fr by (clear LnD LnN LnC Lpk Lna rL L16 z0 b3 Lst n3 n2 n1 hbtpk hbt16 hbtna z14 htu z13 z12 all11 hP0 Tin4 s4 hHna na16 bz z6 hne0 hdis hpk16 hpk hck hh4 hna1 hna hz3 z1 hbt hL H93; omega))) g6)
    (clear LnD LnN LnC Lpk Lna rL L16 z0 b3 Lst n3 n2 n1 hbtpk hbt16 hbtna z14 htu z13 z12 all11 hP0 Tin4 s4 hHna na16 bz z6 hne0 hdis hpk16 hpk hck z5 hh4 hna1 z4 hna hz3 z1 hbt hL H93; omega)
  have t511 : ∀ b ob, b ≠ na → u5.heap.get? b = some ob → u11.heap.get? b = some ob := fun b ob hb e => b611.keep _ _ hb (k6.keep _ _ e)
  have t517 : ∀ b ob, b ≠ na → b ≠ pk → b ≠ L → u5.heap.get? b = some ob → u17.heap.get? b = some ob := fun b ob h1 h2 h3 e => t1617 _ _ h3 (t1217 _ _ h1 (keep12 _ _ h2 h1 (t511 _ _ h1 e)))
  have n12na : ∀ b ob vs, u12.heap.get? b = some ob → ob.data = .fields vs → b ≠ na := by
    rintro b ob vs e d rfl
    rw [g12] at e; cases e; cases d
  have n12L : ∀ b ob vs, u12.heap.get? b = some ob → ob.data = .fields vs → b ≠ L := by
    rintro b ob vs e d rfl
    rw [eL12] at e; cases e; rw [d4] at d; cases d
  have f1217 : ∀ b ob vs, u12.heap.get? b = some ob → ob.data = .fields vs → u17.heap.get? b = some ob := fun b ob vs e d => t1617 _ _ (n12L b ob vs e d) (t1217 _ _ (n12na b ob vs e d) e)
  have hna93 : 93 < na := by (clear z511 LnD LnN LnC Lpk Lna rL L16 z0 b3 Lst n3 n2 n1 hbtpk hbt16 hbtna z14 htu z13 z12 all11 hP0 Tin4 s4 hHna na16 bz z6 hfr hne0 hdis hpk16 hpk hck z5 hh4 hna1 z4 z1 hbt hL; omega)
  have T5tab : u17.heap.get? 16 = some (tabObj ps2) := t517 _ _ (Nat.ne_of_lt (by (clear hna93 z511 LnD LnN LnC Lpk Lna rL L16 z0 b3 Lst n3 n2 n1 hbtpk hbt16 hbtna z14 htu z13 z12 all11 hP0 Tin4 s4 hHna na16 bz z6 hfr hne0 hdis hpk16 hpk hck z5 hh4 hna1 z4 z1 hbt hL; omega))) (Ne.symm hpk16) (Nat.ne_of_lt (by (clear hna93 z511 LnD LnN LnC Lpk Lna rL L16 b3 Lst n3 n2 n1 hbtpk hbt16 hbtna z14 htu z13 z12 all11 hP0 Tin4 s4 hHna na16 bz z6 hfr hne0 hdis hpk16 hpk hck z5 hh4 hna1 z4 hna hz3 z1 hbt; omega))) T5.tab
  have T517 : TabK u17.heap 20 16 ps2 := ⟨codeHdAt T5.hd fun ob vs e d => t517 _ _ (Nat.ne_of_lt (by (clear hna93 z511 LnD LnN LnC Lpk Lna rL L16 z0 b3 Lst n3 n2 n1 hbtpk hbt16 hbtna z14 htu z13 z12 all11 hP0 Tin4 s4 hHna na16 bz z6 hfr hne0 hdis hpk16 hpk hck z5 hh4 hna1 z4 z1 hbt hL; omega))) (Nat.ne_of_lt (by (clear hna93 z511 LnD LnN LnC Lpk Lna rL L16 z0 b3 Lst n3 n2 n1 hbtpk hbt16 hbtna z14 htu z13 z12 all11 hP0 Tin4 s4 hHna na16 bz z6 hfr hne0 hdis hpk16 hck z5 hh4 hna1 z4 hna hz3 z1 hbt hL; omega))) (Nat.ne_of_lt (by (clear hna93 z511 LnD LnN LnC Lpk Lna rL L16 b3 Lst n3 n2 n1 hbtpk hbt16 hbtna z14 htu z13 z12 all11 hP0 Tin4 s4 hHna na16 bz z6 hfr hne0 hdis hpk16 hpk hck z5 hh4 hna1 z4 hna hz3 z1 hbt; omega))) e, T5tab, T5.ok⟩
  have hckpk : ck ≠ pk := let ⟨_, _, _, _, _, _, _, _, _, _, _, _, _, _, _, _, _, _, z⟩ := Tin.hd; z
  have rec17 : u17.heap.CodeRec (.ref ck) kQual := codeRecAt rec5 fun ob vs e d => t517 _ _ Tin4.2 hckpk (by
    rintro rfl
    rw [eL5] at e; cases e; rw [d4] at d; cases d) e
  have Tin17 : TabK u17.heap ck pk ps3 := ⟨codeHdAt T12.hd fun ob vs e d => f1217 _ _ _ e d, f1217 _ _ _ T12.tab rfl, T12.ok⟩
  have full17 : TabFull u17.heap ps3 kSix := fun q hq => let ⟨c', a, b⟩ := full12 q hq; ⟨c', a, codeRecAt b fun ob vs e d => f1217 _ _ _ e d⟩
  have hLL : H.objs.size ≤ L + 1 := by (clear hckpk hna93 z511 LnD LnN LnC Lpk Lna rL L16 b3 Lst n3 n2 n1 hbtpk hbt16 hbtna z14 htu z13 z12 all11 hP0 Tin4 s4 hHna na16 bz z6 hfr hne0 hdis hpk16 hpk hck z5 hh4 hna1 z4 hna hz3 z1 hbt H93; omega)
  obtain ⟨oc, gc, dc⟩ := hc
  have lc : L + 1 < st.heap.objs.size := Heap.lt_size gc
  have x12 : ∀ x ∈ [ls, f1, f2, f3, f4, f5, f6], x ≠ L := fun x hx => by
    have e1 := (hnew x hx).1
    have e2 : (L : Nat) < u11.heap.objs.size := Heap.lt_size eL11
    exact Nat.ne_of_gt (by (clear e2 lc hLL hckpk hna93 LnD LnN LnC Lpk Lna rL L16 z0 b3 Lst n3 n2 n1 hbtpk hbt16 hbtna z14 htu z13 z12 all11 hP0 Tin4 hHna na16 bz z6 hfr hne0 hdis hpk16 hpk hck hh4 hna1 z4 hna hz3 z1 hbt H93; omega))
  refine hQ C u17 ⟨N, D, f1, f2, c1, c2, L + 1, ls, f3, f4, f5, f6, tu, _, _, "cpy313.functools", 4, hs, hd, to, td, tm, sl, ctv1, doc1, ctv2, doc2, (mg "__name__").getD .none⟩ (p16.chg c17 (Nat.le_of_eq hL.symm)) ⟨ps2, T517, .inr ⟨ck, pk, ps3, hca5, rec17, Tin17, full17, hck, hpk, hpk16⟩⟩
    ⟨t1617 _ _ (Ne.symm LnC) gC, hsl, ⟨_, t1617 _ _ (Ne.symm LnN) gN⟩, t1617 _ _ (Ne.symm LnD) gD, t1617 _ _ (x12 f1 (by simp)) (t1217 _ _ (hn f1 (by simp)) gf1), codeRecAt r1 fun ob vs e d => f1217 _ _ _ e d,
     t1617 _ _ (x12 f2 (by simp)) (t1217 _ _ (hn f2 (by simp)) gf2), codeRecAt r2 fun ob vs e d => f1217 _ _ _ e d, ⟨oc, t1617 _ _ (Nat.ne_of_gt (Nat.lt_succ_self _)) (big _ _ (Nat.ne_of_gt (show 16 < L + 1 by (clear lc hLL hckpk hna93 z511 LnD LnN LnC Lpk Lna rL L16 b3 Lst n3 n2 n1 hbtpk hbt16 hbtna z14 htu z13 z12 all11 hP0 Tin4 s4 hHna na16 bz z6 hfr hne0 hdis hpk16 hpk hck z5 hh4 hna1 z4 hna hz3 z1 hbt; omega))) gc), dc⟩, n1, n2, n3⟩ (show H.objs.size ≤ L + 1 by (clear lc hLL hckpk hna93 z511 LnD LnN LnC Lpk Lna rL L16 b3 Lst n3 n2 n1 hbtpk hbt16 hbtna z14 htu z13 z12 all11 hP0 Tin4 s4 hHna na16 bz z6 hfr hne0 hdis hpk16 hpk hck z5 hh4 hna1 z4 hna hz3 z1 hbt H93; omega)) (show s.heap.objs.size ≤ L + 1 by (clear lc hLL hckpk hna93 z511 LnD LnN LnC Lpk Lna rL L16 z0 b3 Lst n3 n2 n1 hbtpk hbt16 hbtna z14 htu z13 z12 all11 hP0 Tin4 s4 hHna na16 bz z6 hfr hne0 hdis hpk16 hpk hck z5 hh4 hna1 z4 hna hz3 z1 hbt H93; omega))
end
end Kk
end

/-! ### W23 -/
section
open PySem PySem.W PySem.Calls PyProof.Rows PySem.Spec Builtin
set_option maxRecDepth 100000
set_option maxHeartbeats 4000000
namespace Kk
/-- the objects of the class, as a written-out part -/
noncomputable def kFrag (C : Nat) (k : KDat) (sl : Array (Option Value)) : Frag :=
  [(C, kC k.N kQual [.ref C, .type "object"] false ["obj"] k.sl), (k.N, { kNsObj k with slots := sl }),
   (k.D, { cls := .type "member_descriptor", data := .fields #[.str "obj" k.tm, .ref C, .builtin "proto.slot", .builtin "proto.slot#set", .int 0 0] }),
   (k.f1, fnMade "__init__" (kQ 0) kInit.params kInit.body kInit.scope [] k.doc1 k.pm k.c1 k.ctv1),
   (k.f2, fnMade "__lt__" (kQ 1) kLt.params kLt.body kLt.scope [("mycmp", k.cc)] k.doc2 k.pm k.c2 k.ctv2)]
structure KNe (C : Nat) (k : KDat) : Prop where
  nC : k.N ≠ C
  dC : k.D ≠ C
  dN : k.D ≠ k.N
  aC : k.f1 ≠ C
  aN : k.f1 ≠ k.N
  aD : k.f1 ≠ k.D
  bC : k.f2 ≠ C
  bN : k.f2 ≠ k.N
  bD : k.f2 ≠ k.D
  ba : k.f2 ≠ k.f1
theorem KAt.frag {h : Heap} {C : Nat} {v : Value} {k : KDat} (x : KAt h C v k) : ∃ sl, (kFrag C k sl).In h ∧ KNe C k := by
  obtain ⟨sl, hn⟩ := x.ns
  have ne : ∀ {a b : Nat} {oa ob : Obj}, h.get? a = some oa → h.get? b = some ob → oa.data ≠ ob.data → a ≠ b := by
    rintro a b oa ob ha hb hne rfl
    rw [ha] at hb; cases hb; exact hne rfl
  refine ⟨sl, fun a o e => ?_, ⟨x.nNC, x.nDC, x.nDN, ne x.ini x.cls (by nofun), ne x.ini hn (by nofun), ne x.ini x.dsc (by nofun), ne x.lt x.cls (by nofun), ne x.lt hn (by nofun), ne x.lt x.dsc (by nofun), ?_⟩⟩
  · simp only [kFrag, List.lookup_cons, List.lookup_nil] at e
    split at e
    · rename_i q; cases e; rw [beq_iff_eq.mp q]; exact x.cls
    split at e
    · rename_i q; cases e; rw [beq_iff_eq.mp q]; exact hn
    split at e
    · rename_i q; cases e; rw [beq_iff_eq.mp q]; exact x.dsc
    split at e
    · rename_i q; cases e; rw [beq_iff_eq.mp q]; exact x.ini
    split at e
    · rename_i q; cases e; rw [beq_iff_eq.mp q]; exact x.lt
    · cases e
  · intro q
    have e1 := x.ini
    have e2 := x.lt
    rw [q, e1] at e2
    have e3 : (Str.ofString "__init__") = (Str.ofString "__lt__") := by injection e2 with e2; injection e2 with _ _ e2; injection e2 with e2; injection e2
    exact absurd e3 (by decide)
section
variable {C : Nat} {k : KDat} {sl : Array (Option Value)}
theorem lkC : (kFrag C k sl).lookup C = some (kC k.N kQual [.ref C, .type "object"] false ["obj"] k.sl) := by simp [kFrag]
theorem lkN (n : KNe C k) : (kFrag C k sl).lookup k.N = some { kNsObj k with slots := sl } := by simp [kFrag, List.lookup_cons, beq_eq_false_iff_ne.mpr n.nC]
theorem lkD (n : KNe C k) : (kFrag C k sl).lookup k.D = some { cls := .type "member_descriptor", data := .fields #[.str "obj" k.tm, .ref C, .builtin "proto.slot", .builtin "proto.slot#set", .int 0 0] } := by
  simp [kFrag, List.lookup_cons, beq_eq_false_iff_ne.mpr n.dC, beq_eq_false_iff_ne.mpr n.dN]
theorem lkf1 (n : KNe C k) : (kFrag C k sl).lookup k.f1 = some (fnMade "__init__" (kQ 0) kInit.params kInit.body kInit.scope [] k.doc1 k.pm k.c1 k.ctv1) := by
  simp [kFrag, List.lookup_cons, beq_eq_false_iff_ne.mpr n.aC, beq_eq_false_iff_ne.mpr n.aN, beq_eq_false_iff_ne.mpr n.aD]
theorem lkf2 (n : KNe C k) : (kFrag C k sl).lookup k.f2 = some (fnMade "__lt__" (kQ 1) kLt.params kLt.body kLt.scope [("mycmp", k.cc)] k.doc2 k.pm k.c2 k.ctv2) := by
  simp [kFrag, List.lookup_cons, beq_eq_false_iff_ne.mpr n.bC, beq_eq_false_iff_ne.mpr n.bN, beq_eq_false_iff_ne.mpr n.bD, beq_eq_false_iff_ne.mpr n.ba]
theorem kFind (n : KNe C k) {name : Str} {r : Option Value} (e : ownLook { kNsObj k with slots := sl } name = some r) : findIn (kFrag C k sl) (.ref C) name = some r := findOwn lkC rfl rfl (lkN n) e
theorem kf_setattr (n : KNe C k) : findIn (kFrag C k sl) (.ref C) "__setattr__" = some (some (.builtin "object.__setattr__")) := kFind n (by kernel_rfl)
theorem kf_obj (n : KNe C k) : findIn (kFrag C k sl) (.ref C) "obj" = some (some (.ref k.D)) := kFind n (by kernel_rfl)
theorem kf_init (n : KNe C k) : findIn (kFrag C k sl) (.ref C) "__init__" = some (some (.ref k.f1)) := kFind n (by kernel_rfl)
theorem kf_lt (n : KNe C k) : findIn (kFrag C k sl) (.ref C) "__lt__" = some (some (.ref k.f2)) := kFind n (by kernel_rfl)
theorem kf_getattribute (n : KNe C k) : findIn (kFrag C k sl) (.ref C) "__getattribute__" = some (some (.builtin "object.__getattribute__")) := kFind n (by kernel_rfl)
theorem kf_getattr (n : KNe C k) : findIn (kFrag C k sl) (.ref C) "__getattr__" = some none := kFind n (by kernel_rfl)
theorem kt_D (n : KNe C k) : typeIn (kFrag C k sl) (.ref k.D) = some (.type "member_descriptor") := by show Option.map (·.cls) (List.lookup k.D (kFrag C k sl)) = _; rw [lkD n]; rfl
theorem kt_C : typeIn (kFrag C k sl) (.ref C) = some (.type "type") := by show Option.map (·.cls) (List.lookup C (kFrag C k sl)) = _; rw [lkC]; rfl
theorem kt_f1 (n : KNe C k) : typeIn (kFrag C k sl) (.ref k.f1) = some (.type "function") := by show Option.map (·.cls) (List.lookup k.f1 (kFrag C k sl)) = _; rw [lkf1 n]; rfl
theorem kt_f2 (n : KNe C k) : typeIn (kFrag C k sl) (.ref k.f2) = some (.type "function") := by show Option.map (·.cls) (List.lookup k.f2 (kFrag C k sl)) = _; rw [lkf2 n]; rfl
theorem kc_C : clsIn (kFrag C k sl) C = some { name := "K", bases := [.type "object"], mro := [.ref C, .type "object"], ns := k.N, qualname := kQual, hasDict := false, slotNames := ["obj"] } := by unfold clsIn; rw [lkC]; rfl
theorem k_set (n : KNe C k) : specialIn (kFrag C k sl) (.ref k.D) "__set__" = some (some (.builtin "member_descriptor.__set__")) := by unfold specialIn; rw [kt_D n]; kernel_rfl
theorem k_get (n : KNe C k) : specialIn (kFrag C k sl) (.ref k.D) "__get__" = some (some (.builtin "member_descriptor.__get__")) := by unfold specialIn; rw [kt_D n]; kernel_rfl
theorem k_takes (n : KNe C k) : takesIn (kFrag C k sl) (.ref k.D) = some true := by unfold takesIn; rw [k_set n]
theorem k_taker (n : KNe C k) : takerIn (kFrag C k sl) C "obj" = some (some (.ref k.D)) := by unfold takerIn; rw [kf_obj n]; dsimp only [Option.bind]; rw [k_takes n]; rfl
theorem k_plainOver : plainOver (kFrag C k sl) C = true := by
  unfold plainOver; rw [kc_C]
  show onlyObject [Value.ref C, .type "object"] = true
  rfl
theorem k_plainGet (n : KNe C k) : plainGet (kFrag C k sl) C "obj" = true := by unfold plainGet; rw [kf_getattribute n, kf_getattr n]; rfl
theorem k_isCls : isClsIn (kFrag C k sl) C = true := by unfold isClsIn; rw [kc_C]; rfl
theorem k_slot (n : KNe C k) : slotIn (kFrag C k sl) k.D C = some 0 := by
  unfold slotIn recIn
  rw [lkD n, kc_C]
  simp
theorem k_makes (n : KNe C k) (hm : (k.sl[4]?).join = some (.builtin "object.__new__")) : makesIn (kFrag C k sl) C = true := by
  unfold makesIn
  rw [lkC]
  have h1 : specialIn (kFrag C k sl) (.ref C) "__call__" = some (some (.builtin "type.__call__")) := by unfold specialIn; rw [kt_C]; kernel_rfl
  have h2 : instIn (kFrag C k sl) (.ref C) (.type "type") = some true := by unfold instIn; rw [kt_C]; kernel_rfl
  dsimp only [kC]
  rw [h1, h2, Array.getElem?_toList, hm]
  simp
end
end Kk
end

/-! ### W24 -/
section
open PySem PySem.W PySem.Calls PyProof.Rows PySem.Spec Builtin
set_option maxRecDepth 100000
set_option maxHeartbeats 4000000
namespace Kk
section
variable {prog : Program} {w : World} {H : Heap} {mg mb : Str → Option Value} {A : Around} {s : Shared} {k : Nat} {env : Env} {m : Str → Option Value}
theorem callFnCodeAt {f : Addr} {fd : FuncData} {body : List Stmt} {args : List Value} {binds : List (Str × Value)} {Q : Value → Shared → Prop} {ob : Obj} (B : Base w H mg mb) (o : Ok H A s.heap (k + 1))
    (hf : s.heap.get? f = some ob) (hd : ob.data = .func fd) (hcd : s.heap.CodeRec fd.code fd.qualname) (hbody : fd.body = .stmts body) (hbind : bindArgs fd ⟨args, []⟩ = pure binds)
    (hcell : ∀ x ∈ fd.scope.names, x.2 ≠ .cell) (hloc : ∀ x ∈ binds, fd.scope.names.lookup x.1 = some .local)
    (h : ∀ (L : Nat) st, L = s.heap.objs.size → st.heap.Ns L (fun x => binds.reverse.lookup x) → Past H.objs.size Dn s st → Ok H (A.deeper (callEnv fd L f)) st.heap k →
      Wp prog w (A.deeper (callEnv fd L f)) (execs body (callEnv fd L f)) (fun fl s' => Q (match fl with | .ret v => v | _ => .none) s') st)
    (hco : fd.scope.isCoroutine = false := by rfl) (hgen : fd.scope.isGenerator = false := by rfl) (hk : fd.scope.kind = .function := by rfl) : codeAny (model prog w) A (.call (.ref f) ⟨args, []⟩) (RetR Q) s := by
  refine (codeAny_call_def (fd := fd) (body := body) (binds := binds) (by have := o.depth; omega) hf hd (o.nolimit B) hcd hbody (BindsTo.of_eq hbind) hcell hloc (fun h₁ hns hk₁ => ?_) hco hgen hk)
  have hx : Ext H.objs.size Dn s.heap h₁ := .of_keeps hk₁
  have o1 := o.ext hx Dok.nil
  refine Wp.any (h _ _ rfl hns (Past.refl.to hx) ⟨o1.old, by have := o1.depth; show A.depth + 1 + k < _; omega, by have := o1.units; show A.units + 3 + 20 * k < _; omega, o1.handled, ?_⟩)
  obtain ⟨l, hl, _, fr⟩ := o1.frames
  refine ⟨_ :: l, by show A.frames.map _ = _; rw [hl]; rfl, List.cons_ne_nil _ _, fun env he => ?_⟩
  rcases List.mem_cons.mp he with rfl | he
  · obtain ⟨ob, es, ep, e1, e2, _⟩ := hns
    exact ⟨by show fd.scope.kind ≠ _; rw [hk]; nofun, _, rfl, o.size, ob, es, ep, e1, e2⟩
  · exact fr env he
theorem kInit_names : kInit.scope.names = ([(("self" : Str), NameKind.local), (("obj" : Str), NameKind.local)] : List (Str × NameKind)) := by kernel_rfl
theorem kLt_names : kLt.scope.names = ([(("self" : Str), NameKind.local), (("other" : Str), NameKind.local), (("mycmp" : Str), NameKind.free)] : List (Str × NameKind)) := by kernel_rfl
/-- K.__init__ -/
theorem kInit_spec (B : Base w H mg mb) {x C : Nat} {v vf : Value} {kd : KDat} {Q : Value → Shared → Prop} (o : Ok H A s.heap (k + 1)) (KA : KAt s.heap C vf kd) (hx : Inst s.heap x C #[]) (hlo : H.objs.size ≤ x)
    (hQ : ∀ u, Past H.objs.size (· = x) s u → Inst u.heap x C #[some v] → Q .none u) : codeAny (model prog w) A (.call (.ref kd.f1) ⟨[.ref x, v], []⟩) (RetR Q) s := by
  refine callFnCodeAt (binds := [("self", .ref x), ("obj", v)]) B o KA.ini rfl KA.r1 rfl rfl (by show ∀ x ∈ kInit.scope.names, x.2 ≠ .cell; rw [kInit_names]; decide) (by
    intro x hx
    simp only [List.mem_cons, List.not_mem_nil, or_false] at hx
    rcases hx with rfl | rfl <;> rfl) (fun L st hL hns0 hp ok => ?_) rfl rfl rfl
  obtain ⟨m, hns, m1, m2⟩ : ∃ m, st.heap.Ns L m ∧ m "self" = some (.ref x) ∧ m "obj" = some v := ⟨_, hns0, rfl, rfl⟩
  clear hns0
  generalize A.deeper _ = A1 at ok ⊢
  have KA1 := KA.ext hp.ext
  obtain ⟨sl, KF1, kn⟩ := KA1.frag
  show Wp prog w A1 (execs (_ :: _) _) _ _
  refine execs_cons (plainObj_wpAny_Assign_Attribute (eLocal hns m2 (eLocal hns m1 ?_)))
  obtain ⟨ox, od, I1, sl1, -, g1⟩ := (hx.past hp).at
  obtain ⟨ox1, e1, fr1, n1⟩ := g1 #[some v]
  refine rSetSlot (K := kFrag C kd sl) (C := C) (p := kd.D) (i := 0) KF1 I1 (kf_setattr kn) k_plainOver (k_taker kn) (kt_D kn) (k_slot kn) (by decide) (by rw [sl1]; exact e1) fr1 fun u2 c2 hx2 => ?_
  have i2 := n1 _ hx2 fun b o ne e => (c2.same.2 b ne).trans e
  exact execs_nil (hQ u2 ⟨(hp.ext.weak0 (D := (· = x))).turn c2.same (.inr rfl), c2.gens.trans hp.gens, c2.drawn.trans hp.drawn, c2.os.trans hp.os⟩ i2)
/-- K(v) -/
theorem kMake_spec (B : Base w H mg mb) {C : Nat} {v vf : Value} {kd : KDat} {Q : Value → Shared → Prop} (o : Ok H A s.heap (k + 2)) (KA : KAt s.heap C vf kd)
    (hQ : ∀ (x : Nat) u, s.heap.objs.size ≤ x → Past H.objs.size Dn s u → Inst u.heap x C #[some v] → Q (.ref x) u) : Wp prog w A (call (.ref C) [v]) Q s := by
  obtain ⟨hh, g, d, t, os⟩ := s
  obtain ⟨sl, KF1, kn⟩ := KA.frag
  refine wpAny_call (make_core (makes_of (K := kFrag C kd sl) KF1 (k_makes kn KA.maker)) (init := .ref kd.f1) (looks_findIn KF1 (kf_init kn)) (fun self => bind_fn KF1 self (kt_f1 kn)) (.inl rfl) ?_)
  dsimp only at o hQ KA ⊢
  have k1 : Kept (⟨hh, g, d, t, os⟩ : Shared) ⟨(hh.push emptyDict).push (instObj C hh.objs.size), g, d, t, os⟩ := ⟨fun b o e => Heap.get?_push_of_some _ (Heap.get?_push_of_some _ e), rfl, rfl, rfl⟩
  have o1 := (o.kept k1).typeCall (C := C) (vals := [v])
  have hx : ((hh.push emptyDict).push (instObj C hh.objs.size)).get? (hh.objs.size + 1) = some (instObj C hh.objs.size) := by heap_get
  have hd : ((hh.push emptyDict).push (instObj C hh.objs.size)).get? hh.objs.size = some emptyDict := by heap_get
  have hz := o.size
  have r := kInit_spec (prog := prog) (A := A.under (.builtin "type.__call__" ⟨.ref C :: [v], []⟩)) (s := ⟨(hh.push emptyDict).push (instObj C hh.objs.size), g, d, t, os⟩) (x := hh.objs.size + 1) (v := v) (k := k) B o1 (KA.ext (n₀ := 0) k1.ext) ⟨hh.objs.size, emptyDict, hx, hd, _, _, rfl⟩ (by omega)
    (Q := fun r u => r = .none ∧ Q (.ref (hh.objs.size + 1)) u) (fun u e2 e4 => ⟨rfl, ?_⟩)
  · refine codeAny_mono r fun r' u hr => ?_
    rcases r' with e | (v | _ | _ | _) <;> first | exact hr.elim | exact hr
  · refine hQ _ u (by (clear hz; omega)) ?_ e4
    exact Past.fresh k1.past e2 fun b hb => by subst hb; exact Nat.le_succ _
end
end Kk
end

/-! ### W25 -/
section
open PySem PySem.W PySem.Calls PyProof.Rows PySem.Spec Builtin
set_option maxRecDepth 100000
set_option maxHeartbeats 4000000
namespace Kk
section
variable {prog : Program} {w : World} {H : Heap} {mg mb : Str → Option Value} {A : Around} {s : Shared} {k : Nat} {env : Env} {m : Str → Option Value}
theorem kLt_spec (B : Base w H mg mb) {C x y lam : Nat} {vx vy : Value} {kd : KDat} {n : Int} {ob : Obj} {Q : Bool → Shared → Prop} (o : Ok H A s.heap (k + 1)) (KA : KAt s.heap C (.ref lam) kd)
    (ix : Inst s.heap x C #[some vx]) (iy : Inst s.heap y C #[some vy]) (hx : handedIn vx = true) (hy : handedIn vy = true) (hlam : s.heap.get? lam = some ob) (hob : ∃ fd, ob = { cls := .type "function", data := .func fd })
    (hl : ∀ A' u (Q' : Value → Shared → Prop), Ok H A' u.heap k → Past H.objs.size Dn s u → (∀ t u', Past H.objs.size Dn u u' → Q' (.int n t) u') → Wp prog w A' (call (.ref lam) [vx, vy]) Q' u)
    (hQ : ∀ u, Past H.objs.size Dn s u → Q (decide (n < 0)) u) : Wp prog w A (keyLt' oneType' (.ref x) (.ref y)) Q s := by
  obtain ⟨fd, rfl⟩ := hob
  obtain ⟨sl, KF1, kn⟩ := KA.frag
  obtain ⟨ox, od, I1, sl1, -, -⟩ := ix.at
  rw [keyLt'_oneType, oneLt'_eq]
  simp only [if_true]
  refine wpAny_bind (wpAny_cRoomFor (by have := o.units; omega) ?_)
  refine wpAny_bind (ifBound_K (K := kFrag C kd sl) KF1 I1 (kf_lt kn) (by unfold isFn; rw [kt_f2 kn]; rfl) (wpAny_call ?_))
  refine codeAny_mono (callFnCodeAt (Q := fun v u => ∃ b, v = .bool b ∧ Q b u) (binds := [("self", .ref x), ("other", .ref y)]) B o KA.lt rfl KA.r2 rfl rfl (by show ∀ x ∈ kLt.scope.names, x.2 ≠ .cell; rw [kLt_names]; decide) (by
    intro x hx
    simp only [List.mem_cons, List.not_mem_nil, or_false] at hx
    rcases hx with rfl | rfl <;> rfl) (fun L st hL hns0 hp ok => ?_) rfl rfl rfl) fun r' u hr => ?_
  · obtain ⟨m, hns, m1, m2⟩ : ∃ m, st.heap.Ns L m ∧ m "self" = some (.ref x) ∧ m "other" = some (.ref y) := ⟨_, hns0, rfl, rfl⟩
    clear hns0
    generalize A.deeper _ = A1 at ok ⊢
    have KA1 := KA.ext hp.ext
    obtain ⟨sl2, KF2, -⟩ := KA1.frag
    show Wp prog w A1 (execs (_ :: _) _) _ _
    refine execs_cons (wpAny_Return_some (wpAny_Compare1 (wpAny_Call_NameR (eFree KA1.cell ?_))))
    refine callWith_function (o := { cls := .type "function", data := .func fd }) (fd := fd) (evalArgs_plain (sCons (Attribute_any_ (eLocal hns m1 ?_))))
    obtain ⟨ox2, od2, I2, sl2', -, -⟩ := (ix.past hp).at
    refine rGetSlot (p := kd.D) (i := 0) KF2 I2 (k_plainGet kn) k_isCls (kf_obj kn) (k_get kn) (k_takes kn) (k_slot kn) (by rw [sl2']; rfl) hx fun u3 k3 e3 => ?_
    refine sCons (Attribute_any_ (eLocal (k3.ns hns) m2 ?_))
    obtain ⟨ox4, od4, I4, sl4, -, -⟩ := ((iy.past hp).kept k3).at
    refine rGetSlot (K := kFrag C kd sl2) (p := kd.D) (i := 0) (KF2.keeps k3.keep) I4 (k_plainGet kn) k_isCls (kf_obj kn) (k_get kn) (k_takes kn) (k_slot kn) (by rw [sl4]; rfl) hy fun u5 k5 e5 => ?_
    refine sNil ?_
    have p5 : Past H.objs.size Dn s u5 := (hp.kept k3).kept k5
    refine ⟨⟨p5.ext.get hlam id (by nofun), rfl⟩, ?_⟩
    refine hl A1 u5 _ ((ok.kept k3).kept k5) p5 fun t u6 p6 => ?_
    refine wpAny_Constant_int (PyProof.Rows.lt_int ?_)
    exact ⟨_, rfl, hQ _ ((p5.trans p6).kept (Kept.tok _))⟩
  · rcases r' with e | (v | _ | _ | _) <;> first | exact hr.elim | skip
    obtain ⟨b, rfl, hq⟩ := hr
    exact wpAny_truthy_bool hq
end
end Kk
end

/-! ### W26 -/
section
open PySem PySem.W PySem.Calls PyProof.Rows PySem.Spec Builtin
set_option maxRecDepth 100000
set_option maxHeartbeats 4000000
namespace Kk
/-- the sort's questions answered by a table -/
noncomputable def runK {α : Type} (lt : Nat → Nat → Option Bool) : KasT α → Option α
  | .ret a => some a
  | .ask i j k => match lt i j with
    | some b => runK lt (k b)
    | none => none
theorem kas_run {α : Type} {cmp : Nat → Nat → (Bool → Shared → Prop) → Shared → Prop} {lt : Nat → Nat → Option Bool} {J : Shared → Prop} {Q : α → Shared → Prop}
    (hc : ∀ i j b u C, lt i j = some b → J u → (∀ u', J u' → C b u') → cmp i j C u) : ∀ (t : KasT α) (a : α) (s : Shared), runK lt t = some a → J s → (∀ u, J u → Q a u) → t.kasWp cmp Q s
  | .ret a, _, s, e, j, q => by cases e; exact q s j
  | .ask i j k, a, s, e, hj, q => by
    unfold runK at e
    split at e
    · rename_i b hb
      exact hc i j b s _ hb hj fun u' hu => kas_run hc (k b) a u' e hu q
    · cases e
section
variable {prog : Program} {w : World} {H : Heap} {mg mb : Str → Option Value} {A : Around} {s : Shared} {k : Nat} {env : Env} {m : Str → Option Value}
theorem Inst.ne_seq {h : Heap} {x C a : Nat} {sl : Array (Option Value)} {o : Obj} {xs : Array Value} {n : Nat} (i : Inst h x C sl) (e : h.get? a = some o) (hd : o.data = .seq xs n) : x ≠ a := by
  obtain ⟨dx, od, e1, e2, _⟩ := i
  rintro rfl
  rw [e1] at e; cases e; cases hd
theorem zip_item {keys : Array Value} {vs : List Value} (hz : keys.size = vs.length) (i : Nat) : kas_item (keys.zip vs.toArray) i = (keys.getD i .none, vs.getD i .none) := by
  unfold kas_item
  by_cases h : i < vs.length
  · have h' : i < keys.size := by omega
    simp [Array.getD, h, hz]
  · have h' : ¬ i < keys.size := by omega
    have h3 : ¬ i < min keys.size vs.length := by (clear h' hz; omega)
    simp [Array.getD, h, h', h3]
theorem rListItems {a : Nat} {o : Obj} {xs : Array Value} {n : Nat} {Q : Array Value → Shared → Prop} (ho : s.heap.get? a = some o) (hd : o.data = .seq xs n) (h : Q xs s) : Wp prog w A (Builtin.List.listItems (.ref a)) Q s := listItems_at ho hd h
theorem rListUpdate {a : Nat} {xs : Array Value} {n : Nat} {f : Array Value → Array Value} {Q : Unit → Shared → Prop} (ho : s.heap.get? a = some (seqObj "list" xs n)) (h1 : xs.size ≤ 1000) (h2 : (f xs).size ≤ 1000)
    (h : ∀ u n', Chg a s u → u.heap.get? a = some (seqObj "list" (f xs) n') → Q () u) : Wp prog w A (Builtin.List.listUpdate (.ref a) f) Q s :=
  listUpdate_at ho rfl (h _ _ ⟨Heap.SameBut.update .., rfl, rfl, rfl⟩ (get?_update_seq ho f)) (by rw [sizeLine_eq]; (clear h2; omega)) (by rw [sizeLine_eq]; (clear h1; omega))
theorem kTree_spec (B : Base w H mg mb) {a C n : Nat} {vs : List Value} {vf : Value} {kd : KDat} {P : PySem.Fin → Shared → Prop} {s₀ : Shared} {lt : Nat → Nat → Option Bool} {perm : Array Nat} (o : Ok H A s.heap (k + 3)) (p0 : Past H.objs.size Dn s₀ s) (KA : KAt s₀.heap C vf kd)
    (ho : s.heap.get? a = some (seqObj "list" vs.toArray n)) (ha : s₀.heap.objs.size ≤ a) (hz0 : H.objs.size ≤ s₀.heap.objs.size) (h2 : 2 ≤ vs.length) (h64 : vs.length < 64) (hlt : ∀ i j b, lt i j = some b → i < vs.length ∧ j < vs.length)
    (hcmp : ∀ (i j : Nat) b u (x y : Nat) vx vy (Q' : Bool → Shared → Prop), lt i j = some b → Ok H A u.heap (k + 3) → Past H.objs.size Dn s₀ u → vs[i]? = some vx → vs[j]? = some vy → Inst u.heap x C #[some vx] → Inst u.heap y C #[some vy] →
      (∀ u', Past H.objs.size Dn u u' → Q' b u') → Wp prog w A (keyLt' oneType' (.ref x) (.ref y)) Q' u)
    (hrun : runK lt (kas_sort vs.length) = some perm)
    (hQ : ∀ u, Past H.objs.size Dn s₀ u → PL u.heap a (perm.toList.map fun i => vs.getD i .none).toArray → P (.done (.ret .none)) u) : Wp prog w A (ksk_tree a (.ref C) false) P s := by
  unfold ksk_tree
  refine wpAny_bind (rListItems ho rfl ?_)
  refine wpAny_bind (rListUpdate ho (by rw [List.size_toArray]; (clear h2 hz0 ha; omega)) (Nat.zero_le _) fun u1 e1 c1 g1 => ?_)
  have ok1 := o.chgList c1 (Nat.le_trans hz0 ha) ⟨_, ho, rfl, _, rfl⟩
  have p1 := p0.chg c1 ha
  refine wpAny_bind (seqEpoch_at g1 rfl ?_)
  refine wpAny_bind (rNewTuple (by show vs.length ≤ 1000; (clear h2 hz0 ha; omega)) fun th u2 hth k2 z2 _ => ?_)
  refine wpAny_bind (rNewListObj (show 0 ≤ 1000 by decide) fun kS u3 hkS k3 z3 g3 => ?_)
  refine wpAny_holding ?_
  have ok3 := (ok1.kept k2).kept k3
  have p3 := (p1.kept k2).kept k3
  have g3a := k3.keep _ _ (k2.keep _ _ g1)
  have al : (a : Nat) < u2.heap.objs.size := Heap.lt_size (k2.keep _ _ g1)
  have hne : kS ≠ a := Nat.ne_of_gt (by (clear z3 z2 hth h64 h2 hz0 ha; omega))
  have hkS0 : s₀.heap.objs.size ≤ kS := by (clear hne z3 z2 hth h64 h2 hz0; omega)
  clear ok1 k2 k3 g1 c1 p1
  unfold ksk_rest
  refine wpAny_bind (wpAny_rule ?_)
  rw [List.forIn_toArray]
  refine wpAny_bind (ksk_fold (fun i s' => Past H.objs.size Dn s₀ s' ∧ Ok H A s'.heap (k + 3) ∧ s'.heap.get? a = some (seqObj "list" #[] e1) ∧ ∃ kA e, s'.heap.get? kS = some (seqObj "list" kA e) ∧ kA.size = i ∧
      ∀ j v, j < i → vs[j]? = some v → ∃ x : Nat, kA[j]? = some (.ref x) ∧ Inst s'.heap x C #[some v]) vs 0 u3 ⟨p3, ok3, g3a, #[], 0, g3, rfl, fun j v h => absurd h (Nat.not_lt_zero _)⟩ ?step ?done)
  case step =>
    rintro j v s' hv ⟨p4, ok4, g4, kA, e, g4k, hkA, hins⟩
    simp only [Nat.zero_add] at hkA hins ⊢
    have hj : j < vs.length := (List.getElem?_eq_some_iff.mp hv).1
    refine wpAny_bind (wpAny_attempt (Wp.anyMono (kMake_spec (k := k + 1) B ok4 (KA.ext p4.ext) (Q := fun r u => ∃ x : Nat, r = .ref x ∧ s'.heap.objs.size ≤ x ∧ Past H.objs.size Dn s' u ∧ Inst u.heap x C #[some v]) fun x u hx hp hi => ⟨x, rfl, hx, hp, hi⟩) fun r u5 h5 => ?_))
    obtain ⟨x, rfl, hx, p5, i5⟩ := h5
    dsimp only
    have g5k : u5.heap.get? kS = _ := p5.ext.get g4k id (by nofun)
    have g5 : u5.heap.get? a = _ := p5.ext.get g4 id (by nofun)
    have ok5 := ok4.past p5
    refine wpAny_bind (rListUpdate g5k (by (clear hx hkS0 hne al z3 hkS z2 hth h2 hz0 ha; omega)) (by rw [Array.size_push]; (clear hx hkS0 hne al z3 hkS z2 hth h2 hz0 ha; omega)) fun u6 n6 c6 g6 => ?_)
    refine wpAny_pure ⟨rfl, (p4.trans p5).chg c6 hkS0, ok5.chgList c6 (Nat.le_trans hz0 hkS0) ⟨_, g5k, rfl, _, rfl⟩, (c6.same.2 _ (Ne.symm hne)).trans g5, kA.push (.ref x), n6, g6, by rw [Array.size_push, hkA], fun j' v' hj' hv' => ?_⟩
    have nd : ∃ o, u5.heap.get? kS = some o ∧ ∀ es ep, o.data ≠ .dict es ep := ⟨_, g5k, by nofun⟩
    rcases Nat.lt_succ_iff_lt_or_eq.mp hj' with hj' | rfl
    · obtain ⟨x', ex, ix⟩ := hins j' v' hj' hv'
      have ix5 := ix.past p5
      refine ⟨x', ?_, ix5.chgNd c6 (ix5.ne_seq g5k rfl) nd⟩
      rw [Array.getElem?_push, if_neg (by (clear nd hx hj hkS0 hne al z3 hkS z2 hth h64 h2 hz0 ha; omega))]
      exact ex
    · rw [hv] at hv'; cases hv'
      refine ⟨x, ?_, i5.chgNd c6 (i5.ne_seq g5k rfl) nd⟩
      rw [Array.getElem?_push, if_pos (by (clear hj' hj nd hx hkS0 hne al z3 hkS z2 hth h64 h2 hz0 ha; omega))]
  case done =>
    rintro s1 ⟨p4, ok4, g4, kA, e, g4k, hkA, hins⟩
    simp only [Nat.zero_add] at hkA hins
    refine wpAny_bind (rListItems g4k rfl ?_)
    unfold ksk_end
    dsimp only
    rw [if_neg (by decide)]
    have h2' : ¬ vs.toArray.size < 2 := by rw [List.size_toArray]; (clear hkA hkS0 hne al z3 hkS z2 hth h64 hz0 ha; omega)
    rw [if_neg h2', if_neg h2', if_neg (by decide)]
    have hkl : kA.toList.length = vs.length := by rw [Array.length_toList, hkA]
    have hty : ∀ v ∈ kA.toList, Looks (model prog w) s1.heap (typeOf v) (.ref C) := fun v hv => by
      obtain ⟨j, hj, rfl⟩ := List.getElem_of_mem hv
      have hj' : j < vs.length := by (clear h2' hkA hkS0 hne al z3 hkS z2 hth h64 h2 hz0 ha; omega)
      obtain ⟨x, ex, dx, od, ix, _⟩ := hins j vs[j] hj' (by simp [hj'])
      rw [← Array.getElem?_toList, List.getElem?_eq_getElem hj] at ex
      have e' := Option.some.inj ex
      rw [e']
      exact (Looks.ld ix).andThen .now
    have kk := kas_kind (M := model prog w) (A := A) (E := fun _ _ => False) (Q := fun kd u => kd = oneType' ∧ u = s1) (s := s1) (vs := kA.toList) (T := .ref C) (by (clear h2' hkA hkS0 hne al z3 hkS z2 hth h64 hz0 ha; omega)) hty (by simp) (by simp) ⟨rfl, rfl⟩
    rw [Array.toArray_toList] at kk
    refine wpAny_bind (wpAny_mono kk ?_ fun _ _ x => x)
    rintro _ u' ⟨rfl, e2⟩
    rw [e2]
    have hiz : (kA.zip vs.toArray).size = vs.length := by rw [Array.size_zip, hkA, List.size_toArray, Nat.min_self]
    have est : SortSt.mk' oneType' (kA.zip vs.toArray) #[] 7 none = kas_st oneType' (kA.zip vs.toArray) (List.toArray (List.range vs.length)) := by
      have e := kas_range (kA.zip vs.toArray)
      rw [hiz] at e
      show SortSt.mk' oneType' (kA.zip vs.toArray) #[] 7 none = SortSt.mk' oneType' ((List.toArray (List.range vs.length)).map (kas_item (kA.zip vs.toArray))) #[] 7 none
      rw [e]
    have run := kas_runs (prog := prog) (w := w) (A := A) (κ := oneType') (it := kA.zip vs.toArray) (s := s1) (E := fun _ _ => False) (Q := fun _ st' s' => arrOf st' = perm.map (kas_item (kA.zip vs.toArray)) ∧ perm.size = vs.length ∧ failedOf st' = none ∧ Past H.objs.size Dn s1 s')
      (G := fun p s' => p = perm ∧ Past H.objs.size Dn s1 s') h2 h64 (fun p' st' s' a1 a2 a3 a4 => ⟨a4.1 ▸ a2, a4.1 ▸ a1, a3, a4.2⟩)
      (kas_run (lt := lt) (J := fun u => Past H.objs.size Dn s1 u) (fun i j b u C' hb hu hC => by
        obtain ⟨hi, hj⟩ := hlt i j b hb
        obtain ⟨x, ex, ix⟩ := hins i vs[i] hi (by simp [hi])
        obtain ⟨y, ey, iy⟩ := hins j vs[j] hj (by simp [hj])
        unfold kas_cmp
        rw [zip_item hkA, zip_item hkA]
        dsimp only
        rw [show kA.getD i .none = .ref x by simp [Array.getD_eq_getD_getElem?, ex], show kA.getD j .none = .ref y by simp [Array.getD_eq_getD_getElem?, ey]]
        exact hcmp i j b u x y vs[i] vs[j] C' hb (ok4.past hu) (p4.trans hu) (by simp [hi]) (by simp [hj]) (ix.past hu) (iy.past hu) fun u' p' => hC u' (hu.trans p')) _ perm s1 hrun Past.refl fun u hu => ⟨rfl, hu⟩)
    rw [← est] at run
    refine wpAny_bind (wpAny_mono run ?_ fun _ _ e => e)
    rintro ⟨⟨⟩, st'⟩ u7 ⟨har, hps, hf, p7⟩
    dsimp only
    unfold ksk_tail
    have g7k : u7.heap.get? kS = _ := p7.ext.get g4k id (by nofun)
    have g7 : u7.heap.get? a = _ := p7.ext.get g4 id (by nofun)
    have hout : (arrOf st').map (·.2) = List.toArray (perm.toList.map fun i => vs.getD i Value.none) := by
      apply Array.toList_inj.mp
      rw [har, Array.map_map, Array.toList_map]
      exact List.map_congr_left fun i _ => by show (kas_item (kA.zip vs.toArray) i).2 = _; rw [zip_item hkA]
    have hsz : (List.toArray (perm.toList.map fun i => vs.getD i Value.none)).size = vs.length := by rw [List.size_toArray, List.length_map, Array.length_toList, hps]
    refine wpAny_bind (rListUpdate g7k (by (clear hsz hps hiz hkl h2' hkS0 hne al z3 hkS z2 hth h2 hz0 ha; omega)) (Nat.zero_le _) fun u8 n8 c8 g8 => ?_)
    refine wpAny_bind (wpAny_letGo ?_)
    have g8a := (c8.same.2 a (Ne.symm hne)).trans g7
    refine wpAny_bind (seqEpoch_at g8a rfl ?_)
    refine wpAny_bind (rListUpdate g8a (Nat.zero_le _) (by simp only [Bool.false_eq_true, if_false]; rw [hout, hsz]; (clear hsz hps hiz hkl h2' hkA hkS0 hne al z3 hkS z2 hth h2 hz0 ha; omega)) fun u9 n9 c9 g9 => ?_)
    rw [hf]
    simp only [bne_self_eq_false, Bool.false_eq_true, if_false] at g9 ⊢
    rw [hout] at g9
    exact wpAny_pure (hQ u9 ((((p4.trans p7).chg c8 hkS0)).chg c9 ha) ⟨_, n9, g9, rfl, rfl, rfl⟩)
end
end Kk
end

/-! ### W27 -/
section
open PySem PySem.W PySem.Calls PyProof.Rows PySem.Spec Builtin
set_option maxRecDepth 100000
set_option maxHeartbeats 4000000
namespace Kk
section
variable {prog : Program} {w : World} {H : Heap} {mg mb : Str → Option Value} {A : Around} {s : Shared} {k : Nat} {env : Env} {m : Str → Option Value}
theorem sortedK_spec (B : Base w H mg mb) {l C : Nat} {vs : List Value} {vf : Value} {kd : KDat} {Q : Value → Shared → Prop} {lt : Nat → Nat → Option Bool} {perm : Array Nat} (o : Ok H A s.heap (k + 5)) (hl : s.heap.IsList l vs.toArray) (KA : KAt s.heap C vf kd)
    (h2 : 2 ≤ vs.length) (h64 : vs.length < 64) (hlt : ∀ i j b, lt i j = some b → i < vs.length ∧ j < vs.length)
    (hcmp : ∀ A' (i j : Nat) b u (x y : Nat) vx vy (Q' : Bool → Shared → Prop), lt i j = some b → Ok H A' u.heap (k + 3) → Past H.objs.size Dn s u → vs[i]? = some vx → vs[j]? = some vy → Inst u.heap x C #[some vx] → Inst u.heap y C #[some vy] →
      (∀ u', Past H.objs.size Dn u u' → Q' b u') → Wp prog w A' (keyLt' oneType' (.ref x) (.ref y)) Q' u)
    (hrun : runK lt (kas_sort vs.length) = some perm)
    (hQ : ∀ (D : Nat) u, s.heap.objs.size ≤ D → Past H.objs.size Dn s u → PL u.heap D (perm.toList.map fun i => vs.getD i .none).toArray → Q (.ref D) u) :
    Wp prog w A (call (.builtin "sorted") [.ref l] [(Str.ofString "key", .ref C)]) Q s := by
  refine call_function_entry_kw kind_sorted plain_sorted entry_sorted (ksk_s1 _ _) ?_
  unfold Builtin.«sorted»
  refine wpAny_bind (m := checkCount "sorted" 1 1 _) (wpAny_pure ?_)
  refine wpAny_bind (collect_list hl ?_ (by rw [sizeLine_eq]; (clear h2; omega)))
  refine wpAny_bind (wpAny_newList ?_ (by rw [sizeLine_eq]; (clear h2; omega)))
  have hsz : ((s.heap.push (seqObj "list" #[] 0)).update s.heap.objs.size (Obj.mapSeq (· ++ vs.toArray))).objs.size = s.heap.objs.size + 1 := by
    rw [Heap.size_update, size_push']
  have hoL : (((s.heap.push (seqObj "list" #[] 0)).update s.heap.objs.size (Obj.mapSeq (· ++ vs.toArray))).push (seqObj "list" vs.toArray 0)).get? (s.heap.objs.size + 1) = some (seqObj "list" vs.toArray 0) := by
    rw [← hsz]; exact Heap.get?_push_size _ rfl
  have keep : ∀ b o, s.heap.get? b = some o → (((s.heap.push (seqObj "list" #[] 0)).update s.heap.objs.size (Obj.mapSeq (· ++ vs.toArray))).push (seqObj "list" vs.toArray 0)).get? b = some o := fun b o q => by
    have hlt : b < s.heap.objs.size := Heap.lt_size q
    rw [Heap.get?_push_ne _ _ _ (by rw [hsz]; exact Nat.ne_of_lt (Nat.lt_succ_of_lt hlt)), Heap.get?_update_ne _ _ _ _ (Nat.ne_of_lt hlt), Heap.get?_push_ne _ _ _ (Nat.ne_of_lt hlt)]
    exact q
  show wpAny _ _ _ _ _ { s with heap := ((s.heap.push (seqObj "list" #[] 0)).update s.heap.objs.size (Obj.mapSeq (· ++ vs.toArray))).push (seqObj "list" vs.toArray 0) }
  rw [hsz]
  generalize (((s.heap.push (seqObj "list" #[] 0)).update s.heap.objs.size (Obj.mapSeq (· ++ vs.toArray))).push (seqObj "list" vs.toArray 0)) = h1 at hoL keep ⊢
  have k1 : Kept s { s with heap := h1 } := Kept.heap keep
  refine wpAny_bind (wpAny_holding (wpAny_call_entry_kw slot_list_sort ⟨_, hoL, rfl⟩ entry_list_sort ?body (ksk_l1 _ _)))
  case body =>
    show wpAny (model prog w) A.in1.in1 (Builtin.«list.sort» ⟨[.ref (s.heap.objs.size + 1)], [(Str.ofString "key", .ref C)]⟩) _ _ _
    rw [ksk_t1]
    refine Wp.any (kTree_spec (k := k) (s₀ := s) (s := { s with heap := h1 }) (lt := lt) (perm := perm) B ((o.kept k1).in1.in1) k1.past KA hoL (Nat.le_succ _) o.size h2 h64 hlt (fun i j b u x y vx vy Q' => hcmp _ i j b u x y vx vy Q') hrun fun u p l => ⟨_, rfl, ?_⟩)
    exact wpAny_pure ⟨_, rfl, hQ _ u (Nat.le_succ _) p l⟩
end
end Kk
end

/-! ### W28 -/
section
open PySem PySem.W PySem.Calls PyProof.Rows PySem.Spec Builtin
set_option maxRecDepth 100000
set_option maxHeartbeats 4000000
namespace Kk
noncomputable def lPos : Pos := ⟨83, 39, 83, 91⟩
noncomputable abbrev lQual : Str := "_law_first_ones.<locals>.<lambda>"
noncomputable def Tab93 (H h : Heap) : Prop := ∃ ps, TabK h 95 93 ps ∧ (codeAmong lPos ps.toList = none ∨ ∃ c' : Nat, codeAmong lPos ps.toList = some (.ref c') ∧ h.CodeRec (.ref c') lQual ∧ H.objs.size ≤ c')
structure Tabs (H h : Heap) : Prop where
  t16 : Tab16 H h
  t93 : Tab93 H h
theorem Tab93.ext {H : Heap} {n₀ : Nat} {h h' : Heap} (x : Tab93 H h) (e : Ext n₀ Dn h h') : Tab93 H h' := by
  obtain ⟨ps, T, hh⟩ := x
  refine ⟨ps, T.ext e id id, hh.imp id ?_⟩
  rintro ⟨c', h1, h2, h3⟩
  exact ⟨c', h1, CodeRec.ext h2 e id, h3⟩
theorem Tabs.ext {H : Heap} {n₀ : Nat} {h h' : Heap} (x : Tabs H h) (e : Ext n₀ Dn h h') : Tabs H h' := ⟨x.t16.ext e, x.t93.ext e⟩
theorem Tab93.ext16 {H : Heap} {n₀ : Nat} {h h' : Heap} (hz : 93 < H.objs.size) (x : Tab93 H h) (e : Ext n₀ (· = 16) h h') : Tab93 H h' := by
  obtain ⟨ps, T, hh⟩ := x
  refine ⟨ps, T.ext e (by decide) (by decide), hh.imp id ?_⟩
  rintro ⟨c', h1, h2, h3⟩
  exact ⟨c', h1, CodeRec.ext h2 e (Nat.ne_of_gt (Nat.lt_of_lt_of_le (Nat.lt_of_le_of_lt (by decide) hz) h3)), h3⟩
theorem codeRec_ne {h : Heap} {c' P : Nat} {q : Str} {ps : Array Value} (x : h.CodeRec (.ref c') q) (t : h.get? P = some (tabObj ps)) (hok : TriplesOk ps.toList) : c' ≠ P := by
  rintro rfl
  obtain ⟨c₂, o₂, vs₂, t₂, e₂, g₂, r₂, r₃⟩ := x
  cases e₂
  rw [t] at g₂; cases g₂
  cases r₂
  rw [← Array.getElem?_toList] at r₃
  revert r₃ hok
  generalize ps.toList = l
  intro hok r₃
  match l, hok, r₃ with
  | .int _ _ :: .int _ _ :: _ :: _, _, r₃ => simp at r₃
theorem Tab16.ext93 {H : Heap} {n₀ : Nat} {h h' : Heap} (hz : 93 < H.objs.size) (y : Tab93 H h) (x : Tab16 H h) (e : Ext n₀ (· = 93) h h') : Tab16 H h' := by
  obtain ⟨ps, T, hh⟩ := x
  obtain ⟨ps', T', _⟩ := y
  refine ⟨ps, T.ext e (by decide) (by decide), hh.imp id ?_⟩
  rintro ⟨ck, pk, ps2, h1, h2, h3, h4, h5, h6, h7⟩
  exact ⟨ck, pk, ps2, h1, CodeRec.ext h2 e (codeRec_ne h2 T'.tab T'.ok), h3.ext e (Nat.ne_of_gt (Nat.lt_of_lt_of_le hz h5)) (Nat.ne_of_gt (Nat.lt_of_lt_of_le hz h6)), fun q hq => let ⟨c', a, b⟩ := h4 q hq; ⟨c', a, CodeRec.ext b e (codeRec_ne b T'.tab T'.ok)⟩, h5, h6, h7⟩
section
variable {prog : Program} {w : World} {H : Heap} {mg mb : Str → Option Value} {A : Around} {s : Shared} {k : Nat} {env : Env} {m : Str → Option Value}
theorem Base.dok16 (B : Base w H mg mb) (hz : 93 < H.objs.size) : Dok H (· = 16) := ⟨fun b o e q => (by subst q; rw [B.no16] at e; cases e), fun b hb q => (by subst q; exact absurd (Nat.lt_of_lt_of_le hz hb) (by decide))⟩
theorem Base.dok93 (B : Base w H mg mb) (hz : 93 < H.objs.size) : Dok H (· = 93) := ⟨fun b o e q => (by subst q; rw [B.no93] at e; cases e), fun b hb q => (by subst q; exact absurd (Nat.lt_of_lt_of_le hz hb) (by decide))⟩
theorem rLambda (B : Base w H mg mb) (hz : 93 < H.objs.size) (o : Ok H A s.heap k) (T : Tabs H s.heap) {params : Arguments} {body : Expr} {scope : Scope} {clos : List (Str × Addr)} {Q : Value → Shared → Prop}
    (hQ : ∀ (f c' : Nat) ctv u, s.heap.objs.size ≤ f → Past H.objs.size (· = 93) s u → Tabs H u.heap → u.heap.get? f = some (kla_obj "<lambda>" lQual params body scope clos ((mg "__name__").getD .none) c' ctv) → u.heap.CodeRec (.ref c') lQual → Q (.ref f) u)
    (hcl : closureFor scope env = pure clos := by rfl) (hge : env.globals = mainGlobals := by rfl) (hcode : env.code = .ref 95 := by rfl) (hdef : defaultsOf params env = ([], []) := by rfl) (hq : env.qual ++ "<lambda>" = lQual := by rfl) : Wp prog w A (eval (.Lambda params body scope lPos) env) Q s := by
  refine kla_eval hdef ?_
  rw [hq]
  obtain ⟨ps, T3, hh⟩ := T.t93
  have hb := B.bAt o.old B.no93
  have hP0 : mainGlobals ≠ 93 := by decide
  rcases hh with hh | ⟨c', h1, h2, h3⟩
  · refine kla_makeFunction hcl hge (o.gl B) hcode T3.hd T3.tab T3.ok hh hP0 hb fun c' ctv h' tk hx hge' hlt hrec htab => ?_
    have kb : ∀ b ob, b ≠ 93 → s.heap.get? b = some ob → (h'.push (kla_obj "<lambda>" lQual params body scope clos ((mg "__name__").getD .none) c' ctv)).get? b = some ob := fun b ob nb e => Heap.get?_push_of_some _ (hx b ob nb e)
    have ext : Ext H.objs.size (· = 93) s.heap (h'.push (kla_obj "<lambda>" lQual params body scope clos ((mg "__name__").getD .none) c' ctv)) := fun b ob e nd => .inl (kb b ob nd e)
    refine hQ h'.objs.size c' ctv _ (Nat.le_of_lt (Nat.lt_of_le_of_lt hge' hlt)) ⟨ext, rfl, rfl, rfl⟩ ⟨Tab16.ext93 hz T.t93 T.t16 ext, ps ++ codeRow lPos c', ⟨?_, ?_, ?_⟩, .inr ⟨c', ?_, ?_, ?_⟩⟩ (Heap.get?_push_size _ rfl) (CodeRec.keep hrec fun ob e => Heap.get?_push_of_some _ e)
    · exact CodeHd.ext T3.hd ext (by decide)
    · exact Heap.get?_push_of_some _ htab
    · rw [show (ps ++ codeRow lPos c').toList = ps.toList ++ [rawInt lPos.line, rawInt lPos.col, .ref c'] by simp [codeRow]]
      exact TriplesOk_snoc _ _ _ _ T3.ok
    · rw [show (ps ++ codeRow lPos c').toList = ps.toList ++ [rawInt lPos.line, rawInt lPos.col, .ref c'] by simp [codeRow]]
      exact codeAmong_snoc _ T3.ok hh
    · exact CodeRec.keep hrec fun ob e => Heap.get?_push_of_some _ e
    · exact Nat.le_trans o.size hge'
  · refine kla_makeFunctionHit hcl hge (o.gl B) hcode T3.hd T3.tab T3.ok h1 hb fun ctv h' tk hk hsz => ?_
    have kb : ∀ b ob, s.heap.get? b = some ob → (h'.push (kla_obj "<lambda>" lQual params body scope clos ((mg "__name__").getD .none) c' ctv)).get? b = some ob := fun b ob e => Heap.get?_push_of_some _ (hk b ob e)
    exact hQ h'.objs.size c' ctv _ hsz ⟨Ext.of_keeps kb, rfl, rfl, rfl⟩ (T.ext (n₀ := 0) (Ext.of_keeps kb)) (Heap.get?_push_size _ rfl) (h2.keeps kb)
end
end Kk
end

/-! ### W29 -/
section
open PySem PySem.W PySem.Calls PyProof.Rows PySem.Spec Builtin
set_option maxRecDepth 100000
set_option maxHeartbeats 4000000
namespace Kk
structure LDef where
  params : Arguments
  body : Expr
  scope : Scope
noncomputable def lDef : LDef := match fdFirst.body with
  | .stmts [_, .Return (some (.Subscript (.Call _ _ [⟨_, .Call _ [.Lambda p b sc _] _ _, _⟩] _) _ _)) _] => ⟨p, b, sc⟩
  | _ => ⟨⟨[], [], none, [], [], none, []⟩, .Name "" default, default⟩
theorem lDef_names : lDef.scope.names = ([(("one" : Str), NameKind.local), (("other" : Str), NameKind.local), (("places" : Str), NameKind.free), (("_law_compared" : Str), NameKind.globalImplicit)] : List (Str × NameKind)) := by kernel_rfl
section
variable {prog : Program} {w : World} {H : Heap} {mg mb : Str → Option Value} {A : Around} {s : Shared} {k : Nat} {env : Env} {m : Str → Option Value}
theorem callExprAt {f : Addr} {fd : FuncData} {body : Expr} {args : List Value} {binds : List (Str × Value)} {Q : Value → Shared → Prop} {ob : Obj} (B : Base w H mg mb) (o : Ok H A s.heap (k + 1))
    (hf : s.heap.get? f = some ob) (hd : ob.data = .func fd) (hcd : s.heap.CodeRec fd.code fd.qualname) (hbody : fd.body = .expr body) (hbind : bindArgs fd ⟨args, []⟩ = pure binds)
    (hcell : ∀ x ∈ fd.scope.names, x.2 ≠ .cell) (hloc : ∀ x ∈ binds, fd.scope.names.lookup x.1 = some .local)
    (h : ∀ (L : Nat) st, L = s.heap.objs.size → st.heap.Ns L (fun x => binds.reverse.lookup x) → Past H.objs.size Dn s st → Ok H (A.deeper (callEnv fd L f)) st.heap k →
      Wp prog w (A.deeper (callEnv fd L f)) (eval body (callEnv fd L f)) Q st)
    (hco : fd.scope.isCoroutine = false := by rfl) (hgen : fd.scope.isGenerator = false := by rfl) (hk : fd.scope.kind = .function := by rfl) : Wp prog w A (call (.ref f) args) Q s := by
  refine wpAny_call (kla_callFunE (by have := o.depth; omega) hf hd hco hgen hbody hcd ?_)
  rw [hbind]
  refine wpAny_pure (wpAny_newFunctionEnv hcell hloc (fun h₁ hns hsb => ⟨(o.nolimit B).fresh _ hsb, ?_⟩) hk)
  have hk₁ : ∀ b o, s.heap.get? b = some o → h₁.get? b = some o := fun b o e => hsb.extBut b o (Nat.ne_of_lt (Heap.lt_size e)) (Heap.get?_push_of_some _ e)
  have hx : Ext H.objs.size Dn s.heap h₁ := .of_keeps hk₁
  have o1 := o.ext hx Dok.nil
  show codeAny _ _ (.expr body (callEnv fd s.heap.objs.size f)) _ _
  refine kla_codeExpr (Wp.any (h _ _ rfl hns (Past.refl.to hx) ⟨o1.old, by have := o1.depth; show A.depth + 1 + k < _; omega, by have := o1.units; show A.units + 3 + 20 * k < _; omega, o1.handled, ?_⟩))
  obtain ⟨l, hl, _, fr⟩ := o1.frames
  refine ⟨_ :: l, by show A.frames.map _ = _; rw [hl]; rfl, List.cons_ne_nil _ _, fun env he => ?_⟩
  rcases List.mem_cons.mp he with rfl | he
  · obtain ⟨ob, es, ep, e1, e2, _⟩ := hns
    exact ⟨by show fd.scope.kind ≠ _; rw [hk]; nofun, _, rfl, o.size, ob, es, ep, e1, e2⟩
  · exact fr env he
theorem lamCall (B : Base w H mg mb) {lam c' pc one other pl : Nat} {ctv pm : Value} {vs ws qs : List Value} {os ns ps : List Int} {Q : Value → Shared → Prop} (o : Ok H A s.heap (k + 11))
    (g : s.heap.get? lam = some (kla_obj "<lambda>" lQual lDef.params lDef.body lDef.scope [("places", pc)] pm c' ctv)) (hr : s.heap.CodeRec (.ref c') lQual) (hcell : s.heap.IsCell pc (some (.ref pl)))
    (hl : s.heap.IsList one vs.toArray) (hm : s.heap.IsList other ws.toArray)
    (hv : IntsAre vs os) (hw : IntsAre ws ns) (hp : s.heap.IsList pl qs.toArray) (hq : IntsAre qs ps) (hz : os.length ≤ 1000) (hzn : ns.length ≤ 1000)
    {a b : Int} (ha : (os.filter (fun z => !ns.contains z)).getLast? = some a) (hb : (ns.filter (fun z => !os.contains z)).getLast? = some b) (a0 : 0 ≤ a) (b0 : 0 ≤ b) {x y : Int} (hx : ps[a.toNat]? = some x) (hy : ps[b.toNat]? = some y) (hps : ps.length ≤ 1000)
    (hQ : ∀ t u, Past H.objs.size Dn s u → Q (.int (x - y) t) u) : Wp prog w A (call (.ref lam) [.ref one, .ref other]) Q s := by
  refine callExprAt (binds := [("one", .ref one), ("other", .ref other)]) (k := k + 10) B o g rfl hr rfl rfl (by show ∀ x ∈ lDef.scope.names, x.2 ≠ .cell; rw [lDef_names]; decide) (by
    intro x hx
    simp only [List.mem_cons, List.not_mem_nil, or_false] at hx
    rcases hx with rfl | rfl <;> rfl) (fun L st hL hns0 hp1 ok => ?_) rfl rfl rfl
  obtain ⟨m, hns, m1, m2⟩ : ∃ m, st.heap.Ns L m ∧ m "one" = some (.ref one) ∧ m "other" = some (.ref other) := ⟨_, hns0, rfl, rfl⟩
  clear hns0
  generalize A.deeper _ = A1 at ok ⊢
  show Wp prog w A1 (PySem.eval (.Call (.Name "_law_compared" _) _ [] _) _) _ _
  refine cFn B ok rfl (fd := fdCompared) rfl rfl rfl (sCons (eLocal hns m1 (sCons (eLocal hns m2 (sCons (eFree (hp1.cell hcell) (sNil ⟨⟨_, ok⟩, ?_⟩)))))))
  exact compared_spec B (k := k) ok (hp1.list hl) (hp1.list hm) hv hw (hp1.list hp) hq hz hzn ha hb a0 b0 hx hy hps fun t u p => hQ t u (hp1.trans p)
end
end Kk
end

/-! ### W30 -/
section
open PySem PySem.W PySem.Calls PyProof.Rows PySem.Spec Builtin
set_option maxRecDepth 100000
set_option maxHeartbeats 4000000
namespace Kk
section
variable {prog : Program} {w : World} {H : Heap} {mg mb : Str → Option Value} {A : Around} {s : Shared} {k : Nat} {env : Env} {m : Str → Option Value}
/-- x[lower:upper] of any expression -/
theorem rSliceT {value : Expr} {lower upper : Option Expr} {p pos : Pos} {Q : Value → Shared → Prop}
    (h : Wp prog w A (eval value env) (fun o s₁ => Wp prog w A (evalPart lower env) (fun vl s₂ => Wp prog w A (evalPart upper env) (fun vu s₃ =>
      ∃ (l : Nat) (items : Array Value) (lo hi : Option Int), o = .ref l ∧ s₃.heap.IsList l items ∧ items.size ≤ 100000 ∧ IsPart vl lo ∧ IsPart vu hi ∧
        ∀ (a : Nat) u, a = s₃.heap.objs.size + 1 → Kept s₃ u → u.heap.objs.size = a + 1 → u.heap.IsList a (slicePick items lo hi none) → Q (.ref a) u) s₂) s₁) s) :
    Wp prog w A (eval (.Subscript value (.Slice lower upper none p) pos) env) Q s := by
  rw [eval_Subscript]
  refine wpAny_bind (h.mono fun o s₁ h₁ => wpAny_bind (wpAny_holding ?_))
  refine wpAny_Slice (h₁.mono fun vl s₂ h₂ => h₂.mono fun vu s₃ h₃ => ?_)
  obtain ⟨l, items, lo, hi, rfl, hl, hsz, pl, pu, hQ⟩ := h₃
  rw [evalPart_none]
  refine wpAny_pure (wpAny_bind (wpAny_standAt ?_))
  have hT : ({ s₃ with heap := s₃.heap.push { cls := .type "slice", data := .fields #[vl, vu, .none] } } : Shared).TypeIs (.ref l) "list" := (hl.push { cls := .type "slice", data := .fields #[vl, vu, .none] }).typeIs
  have fin : Wp prog w A (getItem (.ref l) (.ref s₃.heap.objs.size)) Q { s₃ with heap := s₃.heap.push { cls := .type "slice", data := .fields #[vl, vu, .none] } } := by
    refine wpAny_getItem_list_slice (hl.push _) (Heap.IsSliceOf.new ..) pl pu .none (by simp) ?_ (by rw [sizeLine_eq]; omega)
    rw [Heap.size_push]
    refine hQ _ _ rfl ((Kept.push _).trans (Kept.push _)) ?_ ?_
    · rw [Heap.size_push, Heap.size_push]
    · have := Heap.size_push s₃.heap { cls := .type "slice", data := .fields #[vl, vu, .none] }
      exact ⟨_, by rw [← this]; exact Heap.get?_push_size _ rfl, rfl, 0, rfl⟩
  have fin2 : Wp prog w A (operate [.ref s₃.heap.objs.size, .ref l] (getItem (.ref l) (.ref s₃.heap.objs.size))) (fun r s₄ => Wp prog w A (letTemporaryGo value (.ref l) r >>= fun _ => pure r) Q s₄) { s₃ with heap := s₃.heap.push { cls := .type "slice", data := .fields #[vl, vu, .none] } } :=
    wpAny_operating (fin.mono fun r s₄ h₄ => wpAny_bind (wpAny_letTemporaryGo (wpAny_pure h₄)))
  refine wpAny_bind ?_
  first
    | (rw [getitemInPython_of_ne hT.not_modules]
       refine wpAny_bind (wpAny_specialOf hT list_getitem_lookup ?_)
       first
         | exact wpAny_pure (wpAny_bind fin2)
         | exact wpAny_bind (wpAny_pure (wpAny_bind fin2))
         | exact wpAny_bind fin2)
    | (refine wpAny_specialOf hT list_getitem_lookup ?_
       first
         | exact wpAny_bind (wpAny_pure (wpAny_bind fin2))
         | exact wpAny_bind fin2)
theorem callNameKw {id : Str} {p pos : Pos} {args : List Expr} {kws : List Keyword} {Q : Value → Shared → Prop}
    (h : Wp prog w A (eval (.Name id p) env) (fun f s₁ => Wp prog w A (callWith pos f [] (backTo pos (starEach args env)) (backToKw pos (keywordEach kws env))) Q s₁) s) :
    Wp prog w A (eval (.Call (.Name id p) args kws pos) env) Q s := by
  show wpAny (model prog w) A (do callWith pos (← eval (.Name id p) env) [] (backTo pos (starEach args env)) (backToKw pos (keywordEach kws env))) Q _ s
  exact wpAny_bind h
theorem ILo.extD {n₀ lo : Nat} {D : Addr → Prop} {h h' : Heap} {v : Value} {ns : List Int} (x : ILo lo h v ns) (e : Ext n₀ D h h') (hD : ∀ b, lo ≤ b → ¬ D b) : ILo lo h' v ns :=
  let ⟨a, vs, q, l, i, r⟩ := x; ⟨a, vs, q, l, e.list i (hD a l), r⟩
theorem LLo.extD {n₀ lo : Nat} {D : Addr → Prop} {h h' : Heap} {v : Value} {nss : List (List Int)} (x : LLo lo h v nss) (e : Ext n₀ D h h') (hD : ∀ b, lo ≤ b → ¬ D b) : LLo lo h' v nss :=
  let ⟨a, vs, q, l, i, r⟩ := x; ⟨a, vs, q, l, e.list i (hD a l), r.imp fun _ _ z => z.extD e hD⟩
noncomputable def ILp (P : Nat → Prop) (h : Heap) (v : Value) (ns : List Int) : Prop := ∃ (a : Nat) (vs : List Value), v = .ref a ∧ P a ∧ h.IsList a vs.toArray ∧ IntsAre vs ns
noncomputable def LLp (P : Nat → Prop) (h : Heap) (v : Value) (nss : List (List Int)) : Prop := ∃ (a : Nat) (vs : List Value), v = .ref a ∧ P a ∧ h.IsList a vs.toArray ∧ All2 (ILp P h) vs nss
theorem ILp.ext {n₀ : Nat} {D : Addr → Prop} {P : Nat → Prop} {h h' : Heap} {v : Value} {ns : List Int} (x : ILp P h v ns) (e : Ext n₀ D h h') (hD : ∀ b, P b → ¬ D b) : ILp P h' v ns :=
  let ⟨a, vs, q, l, i, r⟩ := x; ⟨a, vs, q, l, e.list i (hD a l), r⟩
theorem LLp.ext {n₀ : Nat} {D : Addr → Prop} {P : Nat → Prop} {h h' : Heap} {v : Value} {nss : List (List Int)} (x : LLp P h v nss) (e : Ext n₀ D h h') (hD : ∀ b, P b → ¬ D b) : LLp P h' v nss :=
  let ⟨a, vs, q, l, i, r⟩ := x; ⟨a, vs, q, l, e.list i (hD a l), r.imp fun _ _ z => z.ext e hD⟩
theorem ILp.lo {P : Nat → Prop} {lo : Nat} {h : Heap} {v : Value} {ns : List Int} (x : ILp P h v ns) (hP : ∀ a, P a → lo ≤ a) : ILo lo h v ns := let ⟨a, vs, q, l, r⟩ := x; ⟨a, vs, q, hP a l, r⟩
theorem LLp.lo {P : Nat → Prop} {lo : Nat} {h : Heap} {v : Value} {nss : List (List Int)} (x : LLp P h v nss) (hP : ∀ a, P a → lo ≤ a) : LLo lo h v nss :=
  let ⟨a, vs, q, l, i, r⟩ := x; ⟨a, vs, q, hP a l, i, r.imp fun _ _ z => z.lo hP⟩
theorem count_eq {α : Type} (q : α → Bool) (d : α) (l : List α) : ((List.range l.length).filter fun j => q (l.getD j d)).length = (l.filter q).length := by
  induction l with
  | nil => rfl
  | cons x l ih =>
    rw [List.length_cons, List.range_succ_eq_map, List.filter_cons, List.filter_cons]
    have e : ((List.range l.length).map Nat.succ).filter (fun j => q ((x :: l).getD j d)) = ((List.range l.length).filter fun j => q (l.getD j d)).map Nat.succ := by
      rw [List.filter_map]; rfl
    rw [e]
    simp only [List.getD_cons_zero]
    split
    · rw [List.length_cons, List.length_cons, List.length_map, ih]
    · rw [List.length_map, ih]
theorem All2.pick {α β : Type} {R : α → β → Prop} {l : List α} {l' : List β} (x : All2 R l l') {d : α} {d' : β} : ∀ {is : List Nat}, (∀ i ∈ is, i < l.length) → All2 R (is.map fun i => l.getD i d) (is.map fun i => l'.getD i d')
  | [], _ => .nil
  | i :: is, h => by
    have hi := h i (.head _)
    obtain ⟨b, hb, hr⟩ := x.get (i := i) (a := l[i]) (by simp [hi])
    refine .cons ?_ (x.pick fun j hj => h j (.tail _ hj))
    show R (l.getD i d) (l'.getD i d')
    rw [List.getD_eq_getElem?_getD, List.getD_eq_getElem?_getD, hb]
    simpa [hi] using hr
theorem All2.take {α β : Type} {R : α → β → Prop} : ∀ {l : List α} {l' : List β}, All2 R l l' → ∀ n, All2 R (l.take n) (l'.take n)
  | _, _, .nil, n => by simp only [List.take_nil]; exact .nil
  | _, _, .cons a b, 0 => .nil
  | _, _, .cons a b, n + 1 => .cons a (b.take n)
end
end Kk
end

/-! ### W31 -/
section
open PySem PySem.W PySem.Calls PyProof.Rows PySem.Spec Builtin
set_option maxRecDepth 100000
set_option maxHeartbeats 4000000
namespace Kk
section
variable {prog : Program} {w : World} {H : Heap} {mg mb : Str → Option Value} {A : Around} {s : Shared} {k : Nat} {env : Env} {m : Str → Option Value}
theorem first_spec (B : Base w H mg mb) (hz93 : 93 < H.objs.size) {sets picked : Value} {pl : Nat} {nss pss : List (List Int)} {qs : List Value} {ps : List Int} {Q : Value → Shared → Prop} {lt : Nat → Nat → Option Bool} {perm : Array Nat} {P : Nat → Prop}
    (o : Ok H A s.heap (k + 20)) (T : Tabs H s.heap) (hP : ∀ a, P a → H.objs.size ≤ a) (hPn : ∀ a, s.heap.objs.size ≤ a → P a) (h1 : LLp P s.heap sets nss) (h2 : LLo H.objs.size s.heap picked pss) (hp : s.heap.IsList pl qs.toArray) (hlo : H.objs.size ≤ pl) (hq : IntsAre qs ps) (hps : ps.length ≤ 1000)
    (n2 : 2 ≤ nss.length) (n64 : nss.length < 64) (hel : ∀ ns ∈ nss, ns.length ≤ 1000)
    (hlt : ∀ i j b, lt i j = some b → ∃ os ns a c x y, nss[i]? = some os ∧ nss[j]? = some ns ∧ (os.filter (fun z => !ns.contains z)).getLast? = some a ∧ (ns.filter (fun z => !os.contains z)).getLast? = some c ∧ 0 ≤ a ∧ 0 ≤ c ∧ ps[a.toNat]? = some x ∧ ps[c.toNat]? = some y ∧ b = decide (x - y < 0))
    (hrun : runK lt (kas_sort nss.length) = some perm) (hperm : ∀ i ∈ perm.toList, i < nss.length) (hpz : perm.size = nss.length)
    (hQ : ∀ u r, Past H.objs.size D0 s u → Tabs H u.heap → LLp P u.heap r ((perm.toList.map fun i => nss.getD i []).take (nss.filter (heldF pss)).length) → Q r u) :
    Wp prog w A (call (.ref 96) [sets, picked, .ref pl]) Q s := by
  refine callFnC B (k := k + 19) o (f := 96) (fd := fdFirst) (binds := [("sets", sets), ("picked", picked), ("places", .ref pl)]) rfl rfl rfl rfl rfl (by
    intro n x hx
    simp only [List.mem_cons, List.not_mem_nil, or_false] at hx
    rcases hx with rfl | rfl | rfl
    · exact .inl rfl
    · exact .inr ⟨rfl, rfl⟩
    · exact .inr ⟨rfl, rfl⟩) fun L st hL hns0 hcell hp0 ok => ?_
  have hc1 : st.heap.IsCell (L + 1) (some picked) := hcell "picked" (L + 1) rfl
  have hc2 : st.heap.IsCell (L + 2) (some (.ref pl)) := hcell "places" (L + 2) rfl
  clear hcell
  obtain ⟨m, hns, m1⟩ : ∃ m, st.heap.Ns L m ∧ m "sets" = some sets := ⟨_, hns0, rfl⟩
  clear hns0
  generalize A.deeper (callEnvC fdFirst L 96) = A1 at ok ⊢
  have hz0 := o.size
  have Ll := ns_lt hns
  obtain ⟨sl, vs, rfl, hslP, hs1, hallP⟩ := h1
  have hsl := hP _ hslP
  have hall : All2 (ILo H.objs.size s.heap) vs nss := hallP.imp fun _ _ z => z.lo hP
  have hvl : vs.length = nss.length := hall.length
  have n0 : st.heap.IsList sl vs.toArray := hp0.list hs1
  refine execs_cons (wpAny_Assign_Name (cBuilt B ok rfl PyProof.Rows.Boot.«len» rfl rfl (sCons ?_)))
  refine compList (cl := [("picked", L + 1)]) (by kernel_rfl) (by decide) rfl (by decide) (eLocal hns m1 ?_)
  refine rIterList n0 fun it u1 hit k1 z1 i1 => ?_
  have itne : it ≠ sl := Nat.ne_of_gt (by have : (sl : Nat) < st.heap.objs.size := isList_lt n0; (clear z1 hvl hsl Ll hz0 hL hpz n64 n2 hps hlo hz93; omega))
  refine compBody (Q := fun a t => Wp prog w A1 (spliced []) (fun vs' u => Wp prog w A1 (call (.builtin "len") (.ref a :: vs')) _ u) t) (itList itne) (fun h => True) (fun j => heldF pss (nss.getD j [])) (fun j y _ => vs[j]? = some y) (n₀ := H.objs.size) (D := Dn) (s₁ := st) ok.handled (by rw [List.size_toArray]; (clear itne z1 hit hsl Ll hz0 hL hpz n2 hps hlo hz93; omega))
      (fun _ _ f => f) ok.size (by (clear itne z1 hvl hsl Ll hz0 hL hpz n64 n2 hps hlo hz93; omega)) ?_ k1.past ⟨i1, k1.list n0⟩ trivial (fun _ _ _ _ => trivial) (fun _ _ _ _ _ _ => trivial) (fun _ _ _ _ h _ => h) (fun _ _ _ _ _ h _ _ _ => h) ?_ ?_
      (fun C j v t mm hj hv p _ hC nC hmx => ?_) (fun C j v t mm hj hv hp2 p _ hC nC hmx => ?_) (fun u4 ys p _ l4 r4 => ?_)
  · intro b hb
    simp only [List.mem_cons, List.not_mem_nil, or_false] at hb
    rcases hb with rfl | rfl <;> (clear itne z1 hvl hpz n64 n2 hps hlo hz93; omega)
  · rfl
  · rfl
  · obtain ⟨os, he, hi⟩ := hall.get (i := j) (a := v) (by simpa using hv)
    have okt := ok.past p
    have hp1 := hp0.trans p
    refine testsOne (wpAny_isTrue_value ?_)
    refine cFn B okt rfl (fd := fdHeld) rfl rfl rfl (sCons (eLocal nC hmx (sCons (eCell (p.cell hc1) (sNil ⟨⟨_, okt⟩, ?_⟩)))))
    refine held_spec B (okt.less (by (clear hC hj itne z1 hit hvl hsl Ll hz0 hL hpz n64 n2 hps hlo hz93; omega))) (hi.past hp1).il ((h2.past hp1).ll) (hel os (List.mem_of_getElem? he)) (fun a ha => ?_) fun u p' => ?_
    · obtain ⟨a', vs', rfl, hlo', _⟩ := hi
      cases ha; exact hlo'
    · refine wpAny_truthy_bool ⟨?_, p', trivial⟩
      rw [List.getD_eq_getElem?_getD, he]; rfl
  · exact eLocal nC hmx ⟨Past.refl, trivial, by simpa using hv⟩
  · have hcnt : ys.length = (nss.filter (heldF pss)).length := by
      have e := r4.length
      rw [List.size_toArray, hvl] at e
      rw [← e]
      exact count_eq (heldF pss) [] nss
    have hcl : (nss.filter (heldF pss)).length ≤ nss.length := List.length_filter_le _ _
    refine sNil (rLen l4 (by rw [List.size_toArray]; (clear itne z1 hit hvl hsl Ll hz0 hL hpz n2 hps hlo hz93; omega)) fun t u5 k5 e5 => ?_)
    rw [List.size_toArray, hcnt]
    generalize hcc : (nss.filter (heldF pss)).length = cnt at hQ hcl hcnt ⊢
    have p5 : Past H.objs.size Dn st u5 := p.kept k5
    have ok5 := ok.past p5
    refine rStoreLoc (L := L) (p5.ns hns) (fun u6 c6 n6 => ?_) rfl rfl rfl
    have q6 : Past H.objs.size Dn s u6 := (hp0.trans p5).chg c6 (by (clear hcnt hcl hcc itne z1 hit hvl hsl Ll hz0 hpz n64 n2 hps hlo hz93; omega))
    have ok6 := ok5.chgNs c6 (by (clear hcnt hcl hcc itne z1 hit hvl hsl Ll hpz n64 n2 hps hlo hz93; omega)) n6
    have nsL := p5.ns hns
    have hc2' := c6.cell (p5.cell hc2) (Nat.ne_of_gt (by (clear hcnt hcl hcc itne z1 hit hvl hsl Ll hz0 hL hpz n64 n2 hps hlo hz93; omega)))
    obtain ⟨m6, n6, b1, b2⟩ : ∃ m, u6.heap.Ns L m ∧ m "sets" = some (.ref sl) ∧ m "count" = some (.int cnt t) := ⟨_, n6, m1, rfl⟩
    refine execs_cons (wpAny_Return_some (rSliceT (callNameKw (eBuilt B ok6 (by kernel_rfl) PyProof.Rows.Boot.«sorted» (callWith_kw (sCons (eLocal n6 b1 (sNil (kws_cons ?_)))))))))
    have T6 := T.ext q6.ext
    refine cFn B ok6 rfl (fd := fdKey) rfl rfl rfl (sCons ?_)
    show Wp prog w A1 (PySem.eval (.Lambda lDef.params lDef.body lDef.scope lPos) (callEnvC fdFirst L 96)) _ _
    refine rLambda (clos := [("places", L + 2)]) B hz93 ok6 T6 fun lam c' ctv u7 hlam p7 T7 g7 r7 => ?_
    have ok7 := ok6.ext p7.ext (B.dok93 hz93)
    refine sNil ?_
    refine ⟨⟨_, ok7⟩, ?_⟩
    refine key_spec B hz93 (k := k + 9) ok7 T7.t16 fun C u8 kd p8 T8 KA hcc1 hcc2 => ?_
    have ok8 := ok7.ext p8.ext (B.dok16 hz93)
    have T8' : Tabs H u8.heap := ⟨T8, T7.t93.ext16 hz93 p8.ext⟩
    refine kws_nil ?_
    have no93 : ∀ b, H.objs.size ≤ b → ¬ b = 93 := fun b hb q => by (clear hcc2 hcc1 hlam hcnt hcl hcc itne z1 hit hvl hsl Ll hz0 hL hpz n64 n2 hps hlo; omega)
    have no16 : ∀ b, H.objs.size ≤ b → ¬ b = 16 := fun b hb q => by (clear hcc2 hcc1 hlam hcnt hcl hcc itne z1 hit hvl hsl Ll hz0 hL hpz n64 n2 hps hlo; omega)
    have sl8 : u8.heap.IsList sl vs.toArray := p8.ext.list (p7.ext.list (q6.list hs1) (no93 sl hsl)) (no16 sl hsl)
    have hall8 : All2 (ILo H.objs.size u8.heap) vs nss := hall.imp fun _ _ z => ((z.past q6).extD p7.ext no93).extD p8.ext no16
    have pl8 : u8.heap.IsList pl qs.toArray := p8.ext.list (p7.ext.list (q6.list hp) (no93 pl hlo)) (no16 pl hlo)
    have g8 : u8.heap.get? lam = _ := p8.ext.get g7 (no16 lam (by have := ok6.size; (clear hcc2 hcc1 hcnt hcl hcc itne z1 hit hvl hsl Ll hz0 hL hpz n64 n2 hps hlo hz93; omega))) (by nofun)
    have r8 : u8.heap.CodeRec (.ref c') lQual := CodeRec.ext r7 p8.ext (by
      obtain ⟨ps', T16, _⟩ := T7.t16
      exact codeRec_ne r7 T16.tab T16.ok)
    have c8 : u8.heap.IsCell (L + 2) (some (.ref pl)) := p8.ext.cell (p7.ext.cell hc2' (no93 _ (by (clear hcc2 hcc1 hlam hcnt hcl hcc itne z1 hit hvl hsl Ll hpz n64 n2 hps hlo hz93; omega)))) (no16 _ (by (clear hcc2 hcc1 hlam hcnt hcl hcc itne z1 hit hvl hsl Ll hpz n64 n2 hps hlo hz93; omega)))
    have n64' : vs.length < 64 := by (clear hcc2 hcc1 hlam hcnt hcl hcc itne z1 hit hsl Ll hz0 hL hpz n2 hps hlo hz93; omega)
    show Wp prog w A1 (call (.builtin "sorted") [.ref sl] [(Str.ofString "key", .ref C)]) _ _
    refine sortedK_spec B (k := k + 14) (lt := lt) (perm := perm) ok8 sl8 KA (by (clear n64' hcc2 hcc1 hlam hcnt hcl hcc itne z1 hit hsl Ll hz0 hL hpz n64 hps hlo hz93; omega)) n64' (fun i j b h => ?_) (fun A' i j b u x y vx vy Q' hb hok hpu hvx hvy ix iy hq' => ?_) (by rw [hvl]; exact hrun) fun D u9 hD p9 l9 => ?_
    · obtain ⟨os, ns, _, _, _, _, e1, e2, _⟩ := hlt i j b h
      rw [hvl]
      exact ⟨(List.getElem?_eq_some_iff.mp e1).1, (List.getElem?_eq_some_iff.mp e2).1⟩
    · obtain ⟨os, ns, a, c, xx, yy, e1, e2, ha, hc, a0, c0, hx, hy, rfl⟩ := hlt i j b hb
      obtain ⟨os', e1', io⟩ := hall8.get hvx
      obtain ⟨ns', e2', jo⟩ := hall8.get hvy
      rw [e1] at e1'; cases e1'
      rw [e2] at e2'; cases e2'
      obtain ⟨ia, ivs, rfl, _, il, ii⟩ := io
      obtain ⟨ja, jvs, rfl, _, jl, ji⟩ := jo
      refine kLt_spec (k := k + 14) (n := xx - yy) B (hok.less (by (clear c0 a0 n64' hcc2 hcc1 hlam hcnt hcl hcc itne z1 hit hvl hsl Ll hz0 hL hpz n64 n2 hps hlo hz93; omega))) (KA.ext hpu.ext) ix iy rfl rfl (hpu.ext.get g8 id (by nofun)) ⟨_, rfl⟩ (fun A'' u' Q'' ok' p' hQ' => ?_) hq'
      have pp := hpu.trans p'
      exact lamCall (k := k + 3) B ok' (pp.ext.get g8 id (by nofun)) (CodeRec.ext r8 pp.ext id) (pp.cell c8) (pp.list il) (pp.list jl) ii ji (pp.list pl8) hq (hel os (List.mem_of_getElem? e1)) (hel ns (List.mem_of_getElem? e2)) ha hc a0 c0 hx hy hps hQ'
    · have pd7 : Past H.objs.size D0 u6 u7 := ⟨p7.ext.weak fun b h _ => .inr h, p7.gens, p7.drawn, p7.os⟩
      have pd8 : Past H.objs.size D0 u7 u8 := ⟨p8.ext.weak fun b h _ => .inl h, p8.gens, p8.drawn, p8.os⟩
      have p89 : Past H.objs.size D0 s u9 := (q6.weak0.trans pd7).trans (pd8.trans p9.weak0)
      have T9 := T8'.ext p9.ext
      refine evalPart_none_step (evalPart_some_step (eLocal (p9.ext.ns (p8.ext.ns (p7.ext.ns n6 (no93 L (by (clear hD n64' hcc2 hcc1 hlam hcnt hcl hcc itne z1 hit hvl hsl Ll hpz n64 n2 hps hlo hz93; omega)))) (no16 L (by (clear hD n64' hcc2 hcc1 hlam hcnt hcl hcc itne z1 hit hvl hsl Ll hpz n64 n2 hps hlo hz93; omega)))) id) b2 ?_))
      have hlen : (perm.toList.map fun i => vs.getD i Value.none).length = nss.length := by rw [List.length_map, Array.length_toList, hpz]
      refine ⟨D, _, none, some (cnt : Int), rfl, l9.list, by rw [List.size_toArray, hlen]; (clear hlen hD n64' hcc2 hcc1 hlam hcnt hcl hcc itne z1 hit hvl hsl Ll hz0 hL hpz n2 hps hlo hz93; omega), .none, .int _ _, fun r u10 hr k10 z10 l10 => ?_⟩
      rw [slicePick_upto _ _ (by rw [List.size_toArray, hlen]; exact hcl)] at l10
      have hP0 : ∀ b, P b → ¬ D0 b := fun b hb d => d.elim (no16 b (hP b hb)) (no93 b (hP b hb))
      refine hQ u10 (.ref r) (p89.kept k10) (T9.ext (n₀ := 0) k10.ext) ⟨r, _, rfl, hPn r ?_, l10, ?_⟩
      · have e1 : (L : Nat) < u9.heap.objs.size := ns_lt (p9.ext.ns (p8.ext.ns (p7.ext.ns n6 (no93 L (by (clear z10 hr hlen hD n64' hcc2 hcc1 hlam hcnt hcl hcc itne z1 hit hvl hsl Ll hpz n64 n2 hps hlo hz93; omega)))) (no16 L (by (clear z10 hr hlen hD n64' hcc2 hcc1 hlam hcnt hcl hcc itne z1 hit hvl hsl Ll hpz n64 n2 hps hlo hz93; omega)))) id)
        (clear z10 hlen hD n64' hcc2 hcc1 hlam hcnt hcl hcc itne z1 hit hvl hsl Ll hz0 hpz n64 n2 hps hlo hz93; omega)
      · exact (((hallP.imp fun _ _ z => z.ext (p89.kept k10).ext hP0).pick (d := Value.none) (d' := []) (fun i hi => by rw [hvl]; exact hperm i hi)).take cnt)
end
end Kk
end

/-! ### W32 -/
section
open PySem PySem.W PySem.Calls PyProof.Rows PySem.Spec Builtin
set_option maxRecDepth 100000
set_option maxHeartbeats 4000000
namespace Kk
/-- a list written out exactly -/
noncomputable def XL (h : Heap) (a : Nat) (xs : Array Value) : Prop := ∃ n, h.get? a = some (seqObj "list" xs n)
section
variable {n₀ a b : Nat} {D : Addr → Prop} {s t u : Shared} {xs : Array Value}
theorem XL.list {h : Heap} (x : XL h a xs) : h.IsList a xs := let ⟨n, e⟩ := x; ⟨_, e, rfl, n, rfl⟩
theorem XL.pl {h : Heap} (x : XL h a xs) : PL h a xs := let ⟨n, e⟩ := x; ⟨_, n, e, rfl, rfl, rfl⟩
theorem XL.lt {h : Heap} (x : XL h a xs) : a < h.objs.size := let ⟨_, e⟩ := x; Heap.lt_size e
theorem XL.ext {h h' : Heap} (x : XL h a xs) (e : Ext n₀ D h h') (nd : ¬ D a) : XL h' a xs := let ⟨n, g⟩ := x; ⟨n, e.get g nd (by nofun)⟩
theorem XL.past (x : XL s.heap a xs) (p : Past n₀ Dn s t) : XL t.heap a xs := x.ext p.ext id
theorem XL.kept (x : XL s.heap a xs) (k : Kept s t) : XL t.heap a xs := let ⟨n, g⟩ := x; ⟨n, k.keep _ _ g⟩
theorem XL.chg (x : XL s.heap a xs) (c : Chg b s t) (ne : a ≠ b) : XL t.heap a xs := let ⟨n, g⟩ := x; ⟨n, (c.same.2 a ne).trans g⟩
theorem XL.but (x : XL s.heap a xs) (c : But b s t) (ne : a ≠ b) : XL t.heap a xs := let ⟨n, g⟩ := x; ⟨n, c.keep _ _ ne g⟩
end
theorem ints_erase : ∀ {vs : List Value} {ns : List Int}, IntsAre vs ns → ∀ i, IntsAre (vs.eraseIdx i) (ns.eraseIdx i)
  | _, _, .nil, i => by simp only [List.eraseIdx_nil]; exact .nil
  | _, _, .cons n t h, 0 => h
  | _, _, .cons n t h, i + 1 => .cons n t (ints_erase h i)
theorem ints_set : ∀ {vs : List Value} {ns : List Int}, IntsAre vs ns → ∀ i a t, IntsAre (vs.set i (.int a t)) (ns.set i a)
  | _, _, .nil, i, _, _ => .nil
  | _, _, .cons n t h, 0, a, t' => .cons a t' h
  | _, _, .cons n t h, i + 1, a, t' => .cons n t (ints_set h i a t')
theorem ints_snoc {a : Int} {t : Tok} {vs : List Value} {ns : List Int} (h : IntsAre vs ns) : IntsAre (vs ++ [.int a t]) (ns ++ [a]) := h.append (.cons a t .nil)
theorem swap_perm {α : Type} : ∀ (l : List α) (p : Nat) (a b : α), l[p]? = some a → l[p + 1]? = some b → ((l.set p b).set (p + 1) a).Perm l
  | x :: y :: l, 0, a, b, h1, h2 => by
    cases h1; cases h2
    exact List.Perm.swap _ _ _
  | x :: l, p + 1, a, b, h1, h2 => .cons x (swap_perm l p a b h1 h2)
  | [x], 0, a, b, h1, h2 => by simp at h2
section
variable {prog : Program} {w : World} {H : Heap} {mg mb : Str → Option Value} {A : Around} {s : Shared} {k : Nat} {env : Env} {m : Str → Option Value}
theorem rNewXL {vs : List Value} {Q : Value → Shared → Prop} (hz : vs.length ≤ 1000) (h : ∀ (a : Nat) u, a = s.heap.objs.size → Kept s u → u.heap.objs.size = a + 1 → XL u.heap a vs.toArray → Q (.ref a) u) : Wp prog w A (newList vs) Q s :=
  rNewListObj hz fun a u h1 h2 h3 h4 => h a u h1 h2 h3 ⟨0, h4⟩
theorem rAppendX {l : Nat} {items : Array Value} {x : Value} {Q : Value → Shared → Prop} (hl : XL s.heap l items) (h : ∀ u, Chg l s u → XL u.heap l (items.push x) → Q .none u) (hsz : items.size ≤ 1000) :
    Wp prog w A (call (.builtin "list.append") [.ref l, x]) Q s := by
  obtain ⟨n, ho⟩ := id hl
  refine wpAny_call_entry slot_list_append hl.list.typeIs entry_list_append ?_ (args_list_append _ _)
  show wpAny _ _ (updateSeq l (·.push x) >>= fun _ => ret .none) _ _ s
  exact wpAny_bind (wpAny_updateSeq ho rfl (wpAny_pure ⟨.none, rfl, h _ ⟨Heap.SameBut.update .., rfl, rfl, rfl⟩ ⟨_, get?_update_seq ho (·.push x)⟩⟩) (by rw [sizeLine_eq]; omega) (by rw [Array.size_push, sizeLine_eq]; omega))
theorem rSetItemX {l : Nat} {items : Array Value} {i : Int} {t : Tok} {v : Value} {Q : Unit → Shared → Prop} (hl : XL s.heap l items) (h0 : 0 ≤ i) (h1 : i < items.size) (hz : items.size ≤ 1000)
    (h : ∀ u, Chg l s u → XL u.heap l (items.setIfInBounds i.toNat v) → Q () u) : Wp prog w A (setItem (.ref l) (.int i t) v) Q s := by
  obtain ⟨n, ho⟩ := id hl
  exact ki_setAt ho h0 (by (clear h0; omega)) h1 (h _ ⟨Heap.SameBut.update .., rfl, rfl, rfl⟩ ⟨_, get?_update_seq ho (·.setIfInBounds i.toNat v)⟩)
theorem rRemoveX {l : Nat} {vs : List Value} {ns : List Int} {i : Int} {t : Tok} {Q : Value → Shared → Prop} (hl : XL s.heap l vs.toArray) (hi : IntsAre vs ns) (hin : ns.any (· == i) = true) (hz : vs.length ≤ 1000)
    (h : ∀ u j, Chg l s u → j < vs.length → XL u.heap l (vs.eraseIdx j).toArray → Q .none u) : Wp prog w A (call (.builtin "list.remove") [.ref l, .int i t]) Q s := by
  obtain ⟨n, ho⟩ := id hl
  have ha : vs.any (isInt i) = true := (any_isInt i hi).trans hin
  have hj : vs.findIdx (isInt i) < vs.length := List.findIdx_lt_length_of_exists (by simpa using ha)
  refine call_meets PySem.F.slot_list_remove hl.list.typeIs PySem.F.entry_list_remove (PySem.F.args_list_remove_2 _ _)
    (MeetsSeq.list_remove l vs.toArray n (.int i t) (isInt i) (fun y hy => eq_isInt i t hi y (by simpa using hy)) (vs.findIdx (isInt i)) (by simpa using hj) (by simpa using List.findIdx_getElem (w := hj)) (fun m hm hlt => by simpa using List.not_of_lt_findIdx hlt) (by rw [List.size_toArray, sizeLine_eq]; (clear hj; omega))) ⟨ho, ?_⟩
  refine h { s with heap := _ } (vs.findIdx (isInt i)) ⟨Heap.SameBut.update .., rfl, rfl, rfl⟩ hj ?_
  have e := get?_update_seq ho (fun xs => xs.eraseIdxIfInBounds (vs.findIdx (isInt i)))
  have e2 : vs.toArray.eraseIdxIfInBounds (vs.findIdx (isInt i)) = (vs.eraseIdx (vs.findIdx (isInt i))).toArray := by
    apply Array.toList_inj.mp
    simp [Array.toList_eraseIdxIfInBounds]
  rw [← e2]
  exact ⟨_, e⟩
theorem rMod {a b : Int} {t t' : Tok} {Q : Value → Shared → Prop} (hb : b ≠ 0) (h : ∀ tk u, Kept s u → u.heap = s.heap → Q (.int (a.fmod b) tk) u) : Wp prog w A (binaryOp .Mod (.int a t) (.int b t')) Q s :=
  PyProof.Rows.mod_int hb (h _ _ (Kept.tok _) rfl)
theorem rDiv2 {a : Int} {t t' : Tok} {Q : Value → Shared → Prop} (h : ∀ tk u, Kept s u → u.heap = s.heap → Q (.int (a.fdiv 2) tk) u) : Wp prog w A (binaryOp .FloorDiv (.int a t) (.int 2 t')) Q s :=
  PyProof.Rows.floordiv_int (by decide) (h _ _ (Kept.tok _) rfl)
theorem rAdd {a b : Int} {t t' : Tok} {Q : Value → Shared → Prop} (h : ∀ tk u, Kept s u → u.heap = s.heap → Q (.int (a + b) tk) u) : Wp prog w A (binaryOp .Add (.int a t) (.int b t')) Q s :=
  PyProof.Rows.add_int (h _ _ (Kept.tok _) rfl)
end
end Kk
end

/-! ### W33 -/
section
open PySem PySem.W PySem.Calls PyProof.Rows PySem.Spec Builtin
set_option maxRecDepth 100000
set_option maxHeartbeats 4000000
namespace Kk
section
variable {prog : Program} {w : World} {H : Heap} {mg mb : Str → Option Value} {A : Around} {s : Shared} {k : Nat} {env : Env} {m : Str → Option Value}
theorem sConstInt {i : Int} {c : Nat} {pos : Pos} {X : Sem Value} {rest : List (Bool × Sem Value)} {Q : List Value → Shared → Prop} (h : ∀ t u, Kept s u → u.heap = s.heap → Wp prog w A (spliced rest) (fun vs s₂ => Q (.int i t :: vs) s₂) u) :
    Wp prog w A (spliced ((false, if false = true then X else PySem.eval (.Constant (.int i) c pos) env) :: rest)) Q s := sCons (iteN (by decide) (rConstInt h))
theorem sElem {e X : Sem Value} {rest : List (Bool × Sem Value)} {Q : List Value → Shared → Prop} (h : Wp prog w A e (fun v u => Wp prog w A (spliced rest) (fun vs s₂ => Q (v :: vs) s₂) u) s) :
    Wp prog w A (spliced ((false, if false = true then X else e) :: rest)) Q s := sCons (iteN (by decide) h)
theorem rAssignSub {o i : Expr} {pos : Pos} {v : Value} {Q : Unit → Shared → Prop} (h : Wp prog w A (PySem.eval o env) (fun ov s₁ => Wp prog w A (PySem.eval i env) (fun iv s₂ => Wp prog w A (setItem ov iv v) Q s₂) s₁) s) :
    Wp prog w A (assign (.Subscript o i pos) env v) Q s := by
  rw [assign_Subscript]
  exact wpAny_bind (wpAny_holding (h.mono fun ov s₁ h₁ => wpAny_bind (wpAny_holding (h₁.mono fun iv s₂ h₂ => wpAny_bind (wpAny_standAt (wpAny_bind (wpAny_holding (h₂.mono fun _ s₃ h₃ => wpAny_release h₃))))))))
theorem drawn_spec (B : Base w H mg mb) {sc : Nat} {vs : List Value} {ns : List Int} {Q : Value → Shared → Prop} (o : Ok H A s.heap (k + 2)) (hs : s.heap.IsList sc vs.toArray) (hi : IntsAre vs ns) (hlen : ns.length ≤ 1000)
    (hQ : ∀ (tp a b : Nat) u os ps ovs pvs, s.heap.objs.size ≤ a → s.heap.objs.size ≤ b → Past H.objs.size Dn s u → XL u.heap a (List.toArray ovs) → IntsAre ovs os → os.Perm [0, 1, 2, 3, 4, 5] → XL u.heap b (List.toArray pvs) → IntsAre pvs ps →
      (∀ p ∈ ps, 0 ≤ p ∧ p < 41) → ps.length ≤ 65 → u.heap.get? tp = some { cls := .type "tuple", data := .seq #[.ref a, .ref b] } → Q (.ref tp) u) : Wp prog w A (call (.ref 72) [.ref sc]) Q s := by
  refine callFn B (k := k + 1) o (f := 72) (fd := fdDrawn) (binds := [("script", .ref sc)]) rfl rfl rfl rfl (by decide) (by
    intro x hx
    simp only [List.mem_cons, List.not_mem_nil, or_false] at hx
    rcases hx with rfl
    rfl) fun L st hL hns0 hp0 ok => ?_
  obtain ⟨m, hns, m1⟩ : ∃ m, st.heap.Ns L m ∧ m "script" = some (.ref sc) := ⟨_, hns0, rfl⟩
  clear hns0
  generalize A.deeper (callEnv fdDrawn L 72) = A1 at ok ⊢
  have hz0 := o.size
  have Ll := ns_lt hns
  refine execs_cons (wpAny_Assign_Name (List_ ?_))
  refine sConstInt fun t1 u1 k1 e1 => sConstInt fun t2 u2 k2 e2 => sConstInt fun t3 u3 k3 e3 => sConstInt fun t4 u4 k4 e4 => sConstInt fun t5 u5 k5 e5 => sConstInt fun t6 u6 k6 e6 => sNil ?_
  have q6 : Past H.objs.size Dn st u6 := (((((Past.refl.kept k1).kept k2).kept k3).kept k4).kept k5).kept k6
  have z6 : u6.heap.objs.size = st.heap.objs.size := by rw [e6, e5, e4, e3, e2, e1]
  clear k1 k2 k3 k4 k5 e1 e2 e3 e4 e5 k6 e6
  refine rNewXL (by simp) fun a u7 ha k7 z7 l7 => ?_
  have q7 := q6.kept k7
  refine rStoreLoc (L := L) (q7.ns hns) (fun u8 c8 n8 => ?_) rfl rfl rfl
  have ok8 := (ok.past q7).chgNs c8 (by (clear z7 ha z6 Ll hlen; omega)) n8
  have p8 := (hp0.trans q7).chg c8 (by (clear z7 ha z6 Ll hz0 hlen; omega))
  have l8 := l7.chg c8 (Nat.ne_of_gt (by (clear z7 hz0 hL hlen; omega)))
  have z8 := c8.size
  refine execs_cons (wpAny_Assign_Name (List_ ?_))
  refine sConstInt fun t11 u1 k1 e1 => sConstInt fun t12 u2 k2 e2 => sConstInt fun t13 u3 k3 e3 => sConstInt fun t14 u4 k4 e4 => sConstInt fun t15 u5 k5 e5 => sNil ?_
  have q5 : Past H.objs.size Dn u8 u5 := ((((Past.refl.kept k1).kept k2).kept k3).kept k4).kept k5
  have z5 : u5.heap.objs.size = u8.heap.objs.size := by rw [e5, e4, e3, e2, e1]
  clear k1 k2 k3 k4 k5 e1 e2 e3 e4 e5
  refine rNewXL (by simp) fun b u9 hb k9 z9 l9 => ?_
  have q9 := q5.kept k9
  refine rStoreLoc (L := L) (q9.ns n8) (fun u10 c10 n10 => ?_) rfl rfl rfl
  have ok10 := (ok8.past q9).chgNs c10 (by (clear z9 hb z5 z8 z7 ha z6 Ll hlen; omega)) n10
  have p10 := (p8.trans q9).chg c10 (by (clear z9 hb z5 z8 z7 ha z6 Ll hz0 hlen; omega))
  have la10 := (l8.past q9).chg c10 (Nat.ne_of_gt (by (clear z9 hb z5 z8 z7 hz0 hL hlen; omega)))
  have lb10 := l9.chg c10 (Nat.ne_of_gt (by (clear z9 hz0 hL hlen; omega)))
  have z10 := c10.size
  obtain ⟨m10, n10, b1, b2, b3⟩ : ∃ m, u10.heap.Ns L m ∧ m "script" = some (.ref sc) ∧ m "order" = some (.ref a) ∧ m "picked" = some (.ref b) := ⟨_, n10, m1, rfl, rfl⟩
  have hab : a < b := by (clear z10 z9 ha z6 Ll hz0 hL hlen; omega)
  have haL : L < a := by (clear hab z10 z9 hb z5 z8 z7 hz0 hL hlen; omega)
  have hos : ∃ ovs, XL u10.heap a (List.toArray ovs) ∧ ∃ os, IntsAre ovs os ∧ os.Perm [0, 1, 2, 3, 4, 5] := ⟨_, la10, _, .cons 3 _ (.cons 0 _ (.cons 5 _ (.cons 1 _ (.cons 4 _ (.cons 2 _ .nil))))), by decide⟩
  have hps : ∃ pvs, XL u10.heap b (List.toArray pvs) ∧ ∃ ps, IntsAre pvs ps ∧ (∀ p ∈ ps, 0 ≤ p ∧ p < 41) ∧ ps.length ≤ 5 + 0 := ⟨_, lb10, _, .cons 6 _ (.cons 32 _ (.cons 33 _ (.cons 36 _ (.cons 39 _ .nil)))), by decide, by decide⟩
  have hsc := p10.list hs
  clear la10 lb10 l9 l8 l7 q9 q5 q7 q6 n8 c8 c10 k7 k9 ok8 p8
  refine execs_cons (forStmt (rSlice (eLocal n10 b1 (evalPart_none_step (evalPart_some_step (rConstInt fun t1 u11 k11 e11 => ?_))))))
  refine ⟨sc, _, none, some (60 : Nat), rfl, k11.list hsc, by rw [List.size_toArray, hi.length]; (clear hps hos haL hab z10 z9 hb z5 z8 z7 ha z6 Ll hz0 hL; omega), .none, .int _ _, fun l1 u12 hl1 k12 z12 l12 => ?_⟩
  rw [slicePick_upto'] at l12
  have k1012 := k11.trans k12
  refine rIterList l12 fun it u13 hit k13 z13 i13 => ?_
  have k1013 := k1012.trans k13
  have bl10 : b < u10.heap.objs.size := by (clear z13 hit z12 hl1 hps hos haL hab hb z5 z8 z7 ha z6 Ll hz0 hL hlen; omega)
  have h11 : u11.heap.objs.size = u10.heap.objs.size := by rw [e11]
  generalize hxs : (vs.toArray.toList.take 60) = xs at l12
  have hxi : IntsAre xs (ns.take 60) := by rw [← hxs]; exact hi.take 60
  have hxl : xs.length ≤ 60 := by rw [← hxs]; simp; (clear h11 bl10 z13 hit z12 hl1 hps hos haL hab z10 z9 hb z5 z8 z7 ha z6 Ll hz0 hL hlen; omega)
  clear hxs
  refine forList (I := fun i t => Past H.objs.size Dn s t ∧ (∃ m, t.heap.Ns L m ∧ m "order" = some (.ref a) ∧ m "picked" = some (.ref b)) ∧ t.heap.IsListIter it l1 i ∧ t.heap.IsList l1 xs.toArray ∧ Ok H A1 t.heap (k + 1) ∧
      (∃ ovs, XL t.heap a (List.toArray ovs) ∧ ∃ os, IntsAre ovs os ∧ os.Perm [0, 1, 2, 3, 4, 5]) ∧ (∃ pvs, XL t.heap b (List.toArray pvs) ∧ ∃ ps, IntsAre pvs ps ∧ (∀ p ∈ ps, 0 ≤ p ∧ p < 41) ∧ ps.length ≤ 5 + i))
    ok.handled (fun i t ht => ⟨ht.2.2.1, ht.2.2.2.1⟩) (fun i v t u hv ht c1 it1 => ?_) (fun t u ht c1 => ?_) ?_
  · obtain ⟨p0, ⟨m0, n0, d1, d2⟩, it0, l0, ok0, ⟨ovs, la0, os, oi, op⟩, ⟨pvs, lb0, ps, pi, pr, pz⟩⟩ := ht
    have hil : i < xs.length := (List.getElem?_eq_some_iff.mp (by simpa using hv)).1
    obtain ⟨x, tx, rfl, hx⟩ := ints_get hxi (by simpa using hv)
    have p1 := p0.chg c1 (by (clear hil pz hxl bl10 z13 hps hos haL hab hz0 hlen; omega))
    have n1 := c1.ns n0 (Nat.ne_of_lt (by (clear hil pz hxl bl10 z13 hps hos haL hab hz0 hL hlen; omega)))
    have ok1 := ok0.chgIter c1 (by (clear hil pz hxl bl10 z13 hps hos haL hab hlen; omega)) it0
    have la1 := la0.chg c1 (Nat.ne_of_lt (by (clear hil pz hxl bl10 z13 hps hos haL hab ha z6 Ll hz0 hL hlen; omega)))
    have lb1 := lb0.chg c1 (Nat.ne_of_lt (by (clear hil pz hxl bl10 z13 hps hos haL hab hb z5 z8 z7 ha z6 Ll hz0 hL hlen; omega)))
    have l1' := c1.list l0 (Nat.ne_of_lt (by (clear hil pz hxl h11 bl10 z13 hl1 hps hos haL hab z10 z9 hb z5 z8 z7 ha z6 Ll hz0 hL hlen; omega)))
    refine wpAny_assign_Name (rStoreLoc (L := L) n1 (fun u2 c2 n2 => ?_) rfl rfl rfl)
    have p2 := p1.chg c2 (by (clear hil pz hxl h11 bl10 z13 hit z12 hl1 hps hos haL hab z10 z9 hb z5 z8 z7 ha z6 Ll hz0 hlen; omega))
    have ok2 := ok1.chgNs c2 (by (clear hil pz hxl h11 bl10 z13 hit z12 hl1 hps hos haL hab z10 z9 hb z5 z8 z7 ha z6 Ll hlen; omega)) n2
    have la2 := la1.chg c2 (Nat.ne_of_gt (by (clear hil pz hxl h11 bl10 z13 hit z12 hl1 hps hos haL hab z10 z9 hb z5 z8 z7 hz0 hL hlen; omega)))
    have lb2 := lb1.chg c2 (Nat.ne_of_gt (by (clear hil pz hxl h11 bl10 z13 hit z12 hl1 hps hos haL hab z10 z9 hz0 hL hlen; omega)))
    have l2' := c2.list l1' (Nat.ne_of_gt (by (clear hil pz hxl bl10 z13 hit z12 hps hos haL hab hz0 hL hlen; omega)))
    have it2 := c2.iter it1 (Nat.ne_of_gt (by (clear hil pz hxl bl10 z13 hps hos haL hab hz0 hL hlen; omega)))
    obtain ⟨m2, n2, f1, f2, f3⟩ : ∃ m, u2.heap.Ns L m ∧ m "order" = some (.ref a) ∧ m "picked" = some (.ref b) ∧ m "x" = some (.int x tx) := ⟨_, n2, d1, d2, rfl⟩
    clear p0 p1 n0 n1 ok0 ok1 la0 la1 lb0 lb1 l0 l1' it0 it1 c1 c2 d1 d2
    refine execs_cons (wpAny_Assign_Name (wpAny_BinOp (wpAny_BinOp (eLocal n2 f3 (rConstInt fun t3 u3 k3 e3 => rDiv2 fun t4 u4 k4 e4 => rConstInt fun t5 u5 k5 e5 => rMod (by decide) fun th u6 k6 e6 => ?_)))))
    have k26 := ((k3.trans k4).trans k5).trans k6
    refine rStoreLoc (L := L) (k26.ns n2) (fun u7 c7 n7 => ?_) rfl rfl rfl
    generalize hhalf : (x.fdiv 2).fmod 205 = half at n7
    have p7 := (p2.kept k26).chg c7 (by (clear hhalf hil pz hxl h11 bl10 z13 hit z12 hl1 hps hos haL hab z10 z9 hb z5 z8 z7 ha z6 Ll hz0 hlen; omega))
    have ok7 := (ok2.kept k26).chgNs c7 (by (clear hhalf hil pz hxl h11 bl10 z13 hit z12 hl1 hps hos haL hab z10 z9 hb z5 z8 z7 ha z6 Ll hlen; omega)) n7
    have la7 := (la2.kept k26).chg c7 (Nat.ne_of_gt (by (clear hhalf hil pz hxl h11 bl10 z13 hit z12 hl1 hps hos haL hab z10 z9 hb z5 z8 z7 hz0 hL hlen; omega)))
    have lb7 := (lb2.kept k26).chg c7 (Nat.ne_of_gt (by (clear hhalf hil pz hxl h11 bl10 z13 hit z12 hl1 hps hos haL hab z10 z9 hz0 hL hlen; omega)))
    have l7' := c7.list (k26.list l2') (Nat.ne_of_gt (by (clear hhalf hil pz hxl bl10 z13 hit z12 hps hos haL hab hz0 hL hlen; omega)))
    have it7 := c7.iter (k26.iter it2) (Nat.ne_of_gt (by (clear hhalf hil pz hxl bl10 z13 hps hos haL hab hz0 hL hlen; omega)))
    obtain ⟨m7, n7, g1, g2, g3, g4⟩ : ∃ m, u7.heap.Ns L m ∧ m "order" = some (.ref a) ∧ m "picked" = some (.ref b) ∧ m "x" = some (.int x tx) ∧ m "half" = some (.int half th) := ⟨_, n7, f1, f2, f3, rfl⟩
    have hh0 : 0 ≤ half := by rw [← hhalf]; exact Int.fmod_nonneg_of_pos _ (by decide)
    clear p2 ok2 la2 lb2 l2' it2 n2 f1 f2 f3 k3 k4 k5 k6 e3 e4 e5 e6 k26 c7
    refine execs_cons (wpAny_If (wpAny_isTrue_Compare1 (wpAny_BinOp (eLocal n7 g3 (rConstInt fun t3 u3 k3 e3 => rMod (by decide) fun t4 u4 k4 e4 => rConstInt fun t5 u5 k5 e5 => PyProof.Rows.eq_int (wpAny_truthy_bool ?_))))))
    have k75 := (k3.trans k4).trans k5
    have p5 := p7.kept k75
    have ok5 := ok7.kept k75
    have la5 := la7.kept k75
    have lb5 := lb7.kept k75
    have ls5 := k75.list l7'
    have it5 := k75.iter it7
    have n5 := k75.ns n7
    clear p7 ok7 la7 lb7 l7' it7 n7 k3 k4 k5 e3 e4 e5 k75
    by_cases hb : (x.fmod 2 == 1) = true
    · rw [if_pos hb]
      obtain ⟨P, hP, hP5⟩ : ∃ P : Nat, half.fmod 5 = (P : Int) ∧ P < 5 := ⟨(half.fmod 5).toNat, (Int.toNat_of_nonneg (Int.fmod_nonneg_of_pos _ (by decide))).symm, by
        have := Int.fmod_lt_of_pos half (show (0 : Int) < 5 by decide)
        have := Int.fmod_nonneg_of_pos half (show (0 : Int) < 5 by decide)
        (clear this hh0 hhalf hil pz hxl h11 bl10 z13 hit z12 hl1 hps hos haL hab z10 z9 z5 z8 z7 ha z6 Ll hz0 hL hlen; omega)⟩
      refine execs_cons (wpAny_Assign_Name (wpAny_BinOp (eLocal n5 g4 (rConstInt fun t3 u3 k3 e3 => rMod (by decide) fun tpl u4 k4 e4 => ?_))))
      rw [hP]
      have k34 := k3.trans k4
      refine rStoreLoc (L := L) (k34.ns n5) (fun u6 c6 n6 => ?_) rfl rfl rfl
      have p6 := (p5.kept k34).chg c6 (by (clear hP5 hP hh0 hhalf hil pz hxl h11 bl10 z13 hit z12 hl1 hps hos haL hab z10 z9 z5 z8 z7 ha z6 Ll hz0 hlen; omega))
      have ok6 := (ok5.kept k34).chgNs c6 (by (clear hP5 hP hh0 hhalf hil pz hxl h11 bl10 z13 hit z12 hl1 hps hos haL hab z10 z9 z5 z8 z7 ha z6 Ll hlen; omega)) n6
      have la6 := (la5.kept k34).chg c6 (Nat.ne_of_gt (by (clear hP5 hP hh0 hhalf hil pz hxl h11 bl10 z13 hit z12 hl1 hps hos haL hab z10 z9 z5 z8 z7 hz0 hL hlen; omega)))
      have lb6 := (lb5.kept k34).chg c6 (Nat.ne_of_gt (by (clear hP5 hP hh0 hhalf hil pz hxl h11 bl10 z13 hit z12 hl1 hps hos haL hab z10 z9 hz0 hL hlen; omega)))
      have ls6 := c6.list (k34.list ls5) (Nat.ne_of_gt (by (clear hP5 hP hh0 hhalf hil pz hxl bl10 z13 hit z12 hps hos haL hab hz0 hL hlen; omega)))
      have it6 := c6.iter (k34.iter it5) (Nat.ne_of_gt (by (clear hP5 hP hh0 hhalf hil pz hxl bl10 z13 hps hos haL hab hz0 hL hlen; omega)))
      obtain ⟨m6, n6, f1, f2, f5⟩ : ∃ m, u6.heap.Ns L m ∧ m "order" = some (.ref a) ∧ m "picked" = some (.ref b) ∧ m "place" = some (.int P tpl) := ⟨_, n6, g1, g2, rfl⟩
      clear p5 ok5 la5 lb5 ls5 it5 n5 k3 k4 e3 e4 k34 c6 g1 g2 g3 g4
      have ol : os.length = 6 := op.length_eq
      obtain ⟨va, hva⟩ : ∃ va, os[P]? = some va := ⟨os[P], by simp⟩
      obtain ⟨vb, hvb⟩ : ∃ vb, os[P + 1]? = some vb := ⟨os[P + 1], by simp⟩
      obtain ⟨ta, hta⟩ := ints_get' oi hva
      obtain ⟨tb, htb⟩ := ints_get' oi hvb
      have ovl : ovs.length = 6 := by rw [oi.length, ol]
      refine execs_cons (Assign_Tuple (Tuple_ ?_))
      refine sElem (Subscript_ (eLocal n6 f1 (wpAny_BinOp (eLocal n6 f5 (rConstInt fun t3 u3 k3 e3 => rAdd fun t4 u4 k4 e4 => ?_)))))
      have k34 := k3.trans k4
      refine rItem (la6.kept k34).list (by (clear ovl ol hP5 hP hh0 hhalf hil pz hxl h11 bl10 z13 hit z12 hl1 hps hos haL hab z10 z9 z5 z8 z7 ha z6 Ll hz0 hL hlen; omega)) (by (clear ovl ol hP hh0 hhalf hil pz hxl h11 bl10 z13 hit z12 hl1 hps hos haL hab z10 z9 z5 z8 z7 ha z6 Ll hz0 hL hlen; omega)) (v := .int vb tb) (by rw [show ((P : Int) + 1).toNat = P + 1 by (clear ovl ol hP5 hP hh0 hhalf hil pz hxl h11 bl10 z13 hit z12 hl1 hps hos haL hab z10 z9 z5 z8 z7 ha z6 Ll hz0 hL hlen; omega)]; simpa using htb) ?_
      refine sElem (Subscript_ (eLocal (k34.ns n6) f1 (eLocal (k34.ns n6) f5 ?_)))
      refine rItem (la6.kept k34).list (by (clear ovl ol hP5 hP hh0 hhalf hil pz hxl h11 bl10 z13 hit z12 hl1 hps hos haL hab z10 z9 z5 z8 z7 ha z6 Ll hz0 hL hlen; omega)) (by (clear ovl ol hP hh0 hhalf hil pz hxl h11 bl10 z13 hit z12 hl1 hps hos haL hab z10 z9 z5 z8 z7 ha z6 Ll hz0 hL hlen; omega)) (v := .int va ta) (by rw [show ((P : Int)).toNat = P by (clear ovl ol hP5 hP hh0 hhalf hil pz hxl h11 bl10 z13 hit z12 hl1 hps hos haL hab z10 z9 z5 z8 z7 ha z6 Ll hz0 hL hlen; omega)]; simpa using hta) ?_
      refine sNil (rNewTuple (by simp) fun tp u7 htp k7 z7 g7 => ?_)
      have k47 := k34.trans k7
      refine wpAny_bind (wpAny_standAt ?_)
      unfold unpack
      refine wpAny_bind (wpAny_holding (unpackItems_tuple (items := #[.int vb tb, .int va ta]) ok6.handled ⟨_, g7, rfl, _, rfl⟩ fun h' hx => ?_))
      have b8 : But u7.heap.objs.size u7 { u7 with heap := h' } := ⟨hx, rfl, rfl, rfl⟩
      generalize ({ u7 with heap := h' } : Shared) = u8 at b8 ⊢
      have la8 := (la6.kept k47).but b8 (Nat.ne_of_lt (by have := (la6.kept k47).lt; (clear z7 htp ovl ol hP5 hP hh0 hhalf hil pz hxl h11 bl10 z13 hit z12 hl1 hps hos haL hab z10 z9 z5 z8 ha z6 Ll hz0 hL hlen; omega)))
      have lb8 := (lb6.kept k47).but b8 (Nat.ne_of_lt (by have := (lb6.kept k47).lt; (clear z7 htp ovl ol hP5 hP hh0 hhalf hil pz hxl h11 bl10 z13 hit z12 hl1 hps hos haL hab z10 z9 z5 z8 ha z6 Ll hz0 hL hlen; omega)))
      have n8 := b8.ns (k47.ns n6) (Nat.ne_of_lt (ns_lt (k47.ns n6)))
      have ls8 := b8.list (k47.list ls6) (Nat.ne_of_lt (isList_lt (k47.list ls6)))
      have it8 := b8.iter (k47.iter it6) (Nat.ne_of_lt (isListIter_lt (k47.iter it6)))
      have z68 : s.heap.objs.size ≤ u7.heap.objs.size := by have := ns_lt (k47.ns n6); (clear z7 htp ovl ol hP5 hP hh0 hhalf hil pz hxl h11 bl10 z13 hit z12 hl1 hps hos haL hab z10 z9 z5 z8 ha z6 Ll hz0 hlen; omega)
      have p8 := (p6.kept k47).butt b8 z68
      have ok8 : Ok H A1 u8.heap (k + 1) := by
        have q : Past H.objs.size Dn u7 u8 := ⟨fun bb o e nd => .inl (b8.keep bb o (Nat.ne_of_lt (Heap.lt_size e)) e), b8.gens, b8.drawn, b8.os⟩
        exact (ok6.kept k47).past q
      refine wpAny_bind (wpAny_holding (rAssignSub (eLocal n8 f1 (eLocal n8 f5 ?_))))
      refine rSetItemX la8 (by (clear z68 z7 htp ovl ol hP5 hP hh0 hhalf hil pz hxl h11 bl10 z13 hit z12 hl1 hps hos haL hab z10 z9 z5 z8 ha z6 Ll hz0 hL hlen; omega)) (by rw [List.size_toArray, ovl]; (clear z68 z7 htp ovl ol hP hh0 hhalf hil pz hxl h11 bl10 z13 hit z12 hl1 hps hos haL hab z10 z9 z5 z8 ha z6 Ll hz0 hL hlen; omega)) (by rw [List.size_toArray, ovl]; (clear z68 z7 htp ovl ol hP5 hP hh0 hhalf hil pz hxl h11 bl10 z13 hit z12 hl1 hps hos haL hab z10 z9 z5 z8 ha z6 Ll hz0 hL hlen; omega)) fun u9 c9 l9 => ?_
      have n9 := c9.ns n8 (Nat.ne_of_lt (by (clear z68 z7 htp ovl ol hP5 hP hh0 hhalf hil pz hxl h11 bl10 z13 hit z12 hl1 hps hos haL hab z10 z9 z5 z8 hz0 hL hlen; omega)))
      refine wpAny_bind (wpAny_holding (rAssignSub (eLocal n9 f1 (wpAny_BinOp (eLocal n9 f5 (rConstInt fun t3 u10 k10 e10 => rAdd fun t4 u11 k11 e11 => ?_))))))
      have k911 := k10.trans k11
      refine rSetItemX (l9.kept k911) (by (clear z68 z7 htp ovl ol hP5 hP hh0 hhalf hil pz hxl h11 bl10 z13 hit z12 hl1 hps hos haL hab z10 z9 z5 z8 ha z6 Ll hz0 hL hlen; omega)) (by rw [Array.size_setIfInBounds, List.size_toArray, ovl]; (clear z68 z7 htp ovl ol hP hh0 hhalf hil pz hxl h11 bl10 z13 hit z12 hl1 hps hos haL hab z10 z9 z5 z8 ha z6 Ll hz0 hL hlen; omega)) (by rw [Array.size_setIfInBounds, List.size_toArray, ovl]; (clear z68 z7 htp ovl ol hP5 hP hh0 hhalf hil pz hxl h11 bl10 z13 hit z12 hl1 hps hos haL hab z10 z9 z5 z8 ha z6 Ll hz0 hL hlen; omega)) fun u12 c12 l12' => ?_
      refine wpAny_pure ?_
      refine execs_nil (execs_nil ?_)
      have c12b := c12
      refine ⟨((p8.chg c9 (by (clear z68 z7 htp ovl ol hP5 hP hh0 hhalf hil pz hxl h11 bl10 z13 hit z12 hl1 hps hos haL hab z10 z9 z5 z8 hz0 hlen; omega))).kept k911).chg c12 (by (clear z68 z7 htp ovl ol hP5 hP hh0 hhalf hil pz hxl h11 bl10 z13 hit z12 hl1 hps hos haL hab z10 z9 z5 z8 hz0 hlen; omega)), ⟨m6, c12.ns (k911.ns n9) (Nat.ne_of_lt (by (clear z68 z7 htp ovl ol hP5 hP hh0 hhalf hil pz hxl h11 bl10 z13 hit z12 hl1 hps hos haL hab z10 z9 z5 z8 hz0 hL hlen; omega))), f1, f2⟩, c12.iter (k911.iter (c9.iter it8 (Nat.ne_of_gt (by (clear z68 z7 htp ovl ol hP5 hP hh0 hhalf hil pz hxl bl10 z13 hps hos haL hab ha z6 Ll hz0 hL hlen; omega))))) (Nat.ne_of_gt (by (clear z68 z7 htp ovl ol hP5 hP hh0 hhalf hil pz hxl bl10 z13 hps hos haL hab ha z6 Ll hz0 hL hlen; omega))),
        c12.list (k911.list (c9.list ls8 (Nat.ne_of_gt (by (clear z68 z7 htp ovl ol hP5 hP hh0 hhalf hil pz hxl bl10 z13 hit z12 hps hos haL hab ha z6 Ll hz0 hL hlen; omega))))) (Nat.ne_of_gt (by (clear z68 z7 htp ovl ol hP5 hP hh0 hhalf hil pz hxl bl10 z13 hit z12 hps hos haL hab ha z6 Ll hz0 hL hlen; omega))), ((ok8.chgList c9 (by (clear z68 z7 htp ovl ol hP5 hP hh0 hhalf hil pz hxl h11 bl10 z13 hit z12 hl1 hps hos haL hab z10 z9 z5 z8 hlen; omega)) la8.list).kept k911).chgList c12 (by (clear z68 z7 htp ovl ol hP5 hP hh0 hhalf hil pz hxl h11 bl10 z13 hit z12 hl1 hps hos haL hab z10 z9 z5 z8 hlen; omega)) (l9.kept k911).list,
        ⟨(ovs.set P (.int vb tb)).set (P + 1) (.int va ta), ?_, _, ints_set (ints_set oi P vb tb) (P + 1) va ta, (swap_perm os P va vb hva hvb).trans op⟩,
        ⟨pvs, ((lb8.chg c9 (Nat.ne_of_gt (by (clear z68 z7 htp ovl ol hP5 hP hh0 hhalf hil pz hxl h11 bl10 z13 hit z12 hl1 hps hos haL hab z10 z9 ha z6 Ll hz0 hL hlen; omega)))).kept k911).chg c12 (Nat.ne_of_gt (by (clear z68 z7 htp ovl ol hP5 hP hh0 hhalf hil pz hxl h11 bl10 z13 hit z12 hl1 hps hos haL hab z10 z9 ha z6 Ll hz0 hL hlen; omega))), ps, pi, pr, by (clear z68 z7 htp ovl ol hP5 hP hh0 hhalf hil hxl h11 bl10 z13 hit z12 hl1 hps hos haL hab z10 z9 z5 z8 ha z6 Ll hz0 hL hlen; omega)⟩⟩
      have e1 : (P : Int).toNat = P := by (clear z68 z7 htp ovl ol hP5 hP hh0 hhalf hil pz hxl h11 bl10 z13 hit z12 hl1 hps hos haL hab z10 z9 z5 z8 ha z6 Ll hz0 hL hlen; omega)
      have e2 : ((P : Int) + 1).toNat = P + 1 := by (clear e1 z68 z7 htp ovl ol hP5 hP hh0 hhalf hil pz hxl h11 bl10 z13 hit z12 hl1 hps hos haL hab z10 z9 z5 z8 ha z6 Ll hz0 hL hlen; omega)
      rw [e1, e2] at l12'
      simpa using l12'
    · rw [if_neg hb]
      have q0 : 0 ≤ half.fmod 41 := Int.fmod_nonneg_of_pos _ (by decide)
      have q1 : half.fmod 41 < 41 := Int.fmod_lt_of_pos _ (by decide)
      have pvl := pi.length
      refine execs_cons (wpAny_If (wpAny_isTrue_Compare1 (wpAny_BinOp (eLocal n5 g4 (rConstInt fun t3 u3 k3 e3 => rMod (by decide) fun t4 u4 k4 e4 => eLocal (k4.ns (k3.ns n5)) g2 (in_list_ints (k4.list (k3.list lb5.list)) pi (wpAny_truthy_bool ?_)))))))
      have k34 := k3.trans k4
      by_cases hin : ps.any (fun x => x == half.fmod 41) = true
      · rw [if_pos hin]
        refine execs_cons (wpAny_Expr (cMethod PySem.F.slot_list_remove PySem.F.type_list_remove rfl rfl rfl (eLocal (k34.ns n5) g2 ⟨b, _, rfl, (lb5.kept k34).pl, ?_⟩)))
        refine wpAny_BinOp (eLocal (k34.ns n5) g4 (rConstInt fun t6 u6 k6 e6 => rMod (by decide) fun t7 u7 k7 e7 => ?_))
        have k37 := (k34.trans k6).trans k7
        refine rRemoveX (lb5.kept k37) pi hin (by (clear q1 q0 hb hh0 hhalf h11 bl10 z13 hit z12 hl1 hps hos haL hab z10 z9 z5 z8 z7 ha z6 Ll hz0 hL hlen; omega)) fun u8 j c8 hj l8 => ?_
        refine execs_nil (execs_nil (execs_nil ?_))
        refine ⟨(p5.kept k37).chg c8 (by (clear hj pvl q1 q0 hb hh0 hhalf hil pz hxl h11 bl10 z13 hit z12 hl1 hps hos haL hab z10 z9 hz0 hlen; omega)), ⟨m7, c8.ns (k37.ns n5) (Nat.ne_of_lt (by (clear hj pvl q1 q0 hb hh0 hhalf hil pz hxl h11 bl10 z13 hit z12 hl1 hps hos haL hab z10 z9 hz0 hL hlen; omega))), g1, g2⟩, c8.iter (k37.iter it5) (Nat.ne_of_gt (by (clear hj pvl q1 q0 hb hh0 hhalf hil pz hxl bl10 z13 hps hos haL hab z5 z8 z7 ha z6 Ll hz0 hL hlen; omega))), c8.list (k37.list ls5) (Nat.ne_of_gt (by (clear hj pvl q1 q0 hb hh0 hhalf hil pz hxl bl10 z13 hit z12 hps hos haL hab z5 z8 z7 ha z6 Ll hz0 hL hlen; omega))), (ok5.kept k37).chgList c8 (by (clear hj pvl q1 q0 hb hh0 hhalf hil pz hxl h11 bl10 z13 hit z12 hl1 hps hos haL hab z10 z9 hlen; omega)) (lb5.kept k37).list,
          ⟨ovs, (la5.kept k37).chg c8 (Nat.ne_of_lt hab), os, oi, op⟩, ⟨_, l8, _, ints_erase pi j, fun p hp => pr p (List.mem_of_mem_eraseIdx hp), ?_⟩⟩
        rw [List.length_eraseIdx]
        split <;> (clear hj pvl q1 q0 hb hh0 hhalf hil hxl h11 bl10 z13 hit z12 hl1 hps hos haL hab z10 z9 z5 z8 z7 ha z6 Ll hz0 hL hlen; omega)
      · rw [if_neg hin]
        refine execs_cons (wpAny_Expr (cMethod PySem.F.slot_list_append PySem.F.type_list_append rfl rfl rfl (eLocal (k34.ns n5) g2 ⟨b, _, rfl, (lb5.kept k34).pl, ?_⟩)))
        refine wpAny_BinOp (eLocal (k34.ns n5) g4 (rConstInt fun t6 u6 k6 e6 => rMod (by decide) fun t7 u7 k7 e7 => ?_))
        have k37 := (k34.trans k6).trans k7
        refine rAppendX (lb5.kept k37) (fun u8 c8 l8 => ?_) (by rw [List.size_toArray]; (clear hin q1 q0 hb hh0 hhalf h11 bl10 z13 hit z12 hl1 hps hos haL hab z10 z9 z5 z8 z7 ha z6 Ll hz0 hL hlen; omega))
        refine execs_nil (execs_nil (execs_nil ?_))
        refine ⟨(p5.kept k37).chg c8 (by (clear hin pvl q1 q0 hb hh0 hhalf hil pz hxl h11 bl10 z13 hit z12 hl1 hps hos haL hab z10 z9 hz0 hlen; omega)), ⟨m7, c8.ns (k37.ns n5) (Nat.ne_of_lt (by (clear hin pvl q1 q0 hb hh0 hhalf hil pz hxl h11 bl10 z13 hit z12 hl1 hps hos haL hab z10 z9 hz0 hL hlen; omega))), g1, g2⟩, c8.iter (k37.iter it5) (Nat.ne_of_gt (by (clear hin pvl q1 q0 hb hh0 hhalf hil pz hxl bl10 z13 hps hos haL hab z5 z8 z7 ha z6 Ll hz0 hL hlen; omega))), c8.list (k37.list ls5) (Nat.ne_of_gt (by (clear hin pvl q1 q0 hb hh0 hhalf hil pz hxl bl10 z13 hit z12 hps hos haL hab z5 z8 z7 ha z6 Ll hz0 hL hlen; omega))), (ok5.kept k37).chgList c8 (by (clear hin pvl q1 q0 hb hh0 hhalf hil pz hxl h11 bl10 z13 hit z12 hl1 hps hos haL hab z10 z9 hlen; omega)) (lb5.kept k37).list,
          ⟨ovs, (la5.kept k37).chg c8 (Nat.ne_of_lt hab), os, oi, op⟩, ⟨pvs ++ [.int (half.fmod 41) t7], by simpa using l8, _, ints_snoc pi, fun p hp => ?_, ?_⟩⟩
        · rcases List.mem_append.mp hp with hp | hp
          · exact pr p hp
          · rw [List.mem_singleton.mp hp]; exact ⟨q0, q1⟩
        · rw [List.length_append, List.length_singleton]; (clear hin pvl q1 q0 hb hh0 hhalf hil hxl h11 bl10 z13 hit z12 hl1 hps hos haL hab z10 z9 z5 z8 z7 ha z6 Ll hz0 hL hlen; omega)
  · obtain ⟨p0, ⟨m0, n0, d1, d2⟩, it0, l0, ok0, ⟨ovs, la0, os, oi, op⟩, ⟨pvs, lb0, ps, pi, pr, pz⟩⟩ := ht
    rw [List.size_toArray] at pz
    refine execs_nil ?_
    have n1 := c1.ns n0 (Nat.ne_of_lt (by (clear pz hxl bl10 z13 hps hos haL hab hz0 hL hlen; omega)))
    refine execs_cons (wpAny_Return_some (Tuple_ ?_))
    refine sElem (eLocal n1 d1 (sElem (eLocal n1 d2 (sNil (rNewTuple (by simp) fun tp u2 htp k2 z2 g2 => ?_)))))
    exact hQ tp a b u2 os ps ovs pvs (by (clear z2 htp pz hxl h11 bl10 z13 hit z12 hl1 hps hos haL hab z10 z9 hb z5 z8 z7 hz0 hlen; omega)) (by (clear z2 htp pz hxl h11 bl10 z13 hit z12 hl1 hps hos haL hab z10 z9 hz0 hlen; omega)) ((p0.butt c1 (by (clear z2 htp pz hxl bl10 z13 hps hos haL hab hz0 hlen; omega))).kept k2) ((la0.but c1 (Nat.ne_of_lt (by (clear z2 htp pz hxl bl10 z13 hps hos haL hab ha z6 Ll hz0 hL hlen; omega)))).kept k2) oi op ((lb0.but c1 (Nat.ne_of_lt (by (clear z2 htp pz hxl bl10 z13 hps hos haL hab hb z5 z8 z7 ha z6 Ll hz0 hL hlen; omega)))).kept k2) pi pr (by (clear z2 htp h11 bl10 z13 hit z12 hl1 hps hos haL hab z10 z9 hb z5 z8 z7 ha z6 Ll hz0 hL hlen; omega)) g2
  · exact ⟨p10.kept k1013, ⟨_, k1013.ns n10, b2, b3⟩, i13, k13.list l12, ok10.kept k1013, let ⟨v, l, r⟩ := hos; ⟨v, l.kept k1013, r⟩, let ⟨v, l, r⟩ := hps; ⟨v, l.kept k1013, r⟩⟩
end
end Kk
end

/-! ### W34 -/
section
open PySem PySem.W PySem.Calls PyProof.Rows PySem.Spec PySem.SeqAt Builtin
set_option maxRecDepth 100000
set_option maxHeartbeats 4000000
namespace Kk
noncomputable def dInts (ns : List Int) : PyData := .list (ns.map PyData.int)
theorem same_d (ns ms : List Int) : same (dInts ns) (dInts ms) = decide (ns = ms) := by unfold dInts; simp only [PySem.Spec.same]; exact same_ints ns ms
theorem countIn_mem {ns : List Int} : ∀ {bss : List (List Int)}, ns ∈ bss → Spec.countIn (dInts ns) (bss.map dInts) ≠ 0
  | b :: bss, h => by
    have h0 := countIn_ge0 (dInts ns) (bss.map dInts)
    rw [List.map_cons, Spec.countIn, same_d]
    rcases List.mem_cons.mp h with rfl | h
    · simp; omega
    · have := countIn_mem h
      split <;> omega
theorem reads_lists {h : Heap} {lo : Nat} : ∀ {vs : List Value} {bss : List (List Int)}, All2 (ILo lo h) vs bss → ∃ as, ReadsAll h vs (bss.map dInts) as
  | _, _, .nil => ⟨_, .nil⟩
  | _, _, .cons ⟨a, xs, e, _, l, i⟩ r => by
    obtain ⟨as, ha⟩ := reads_lists r
    subst e
    exact ⟨_, .cons (reads_of_ints l i) ha⟩
theorem canLay_lists : ∀ bss : List (List Int), PyData.canLayAll0 (bss.map dInts) = true
  | [] => by simp [PyData.canLayAll0]
  | b :: r => by
    have h1 : PyData.canLay0 (dInts b) = true := by unfold dInts; simp only [PyData.canLay0]; exact canLayAll0_ints b
    simp [PyData.canLayAll0, h1, canLay_lists r]
theorem depth_lists : ∀ bss : List (List Int), PyData.depthAll (bss.map dInts) ≤ 3
  | [] => by simp [PyData.depthAll]
  | b :: r => by
    have h1 := PySem.W.depthAll_ints b
    have h2 := depth_lists r
    have h3 : PyData.depth (dInts b) ≤ 2 := by unfold dInts; simp only [PyData.depth]; (clear h2; omega)
    simp only [List.map_cons, PyData.depthAll]
    (clear h1; omega)
theorem shaped_lists (bss : List (List Int)) : shaped (.list (bss.map dInts)) = true := by
  have h1 := depth_lists bss
  have h2 : PyData.depth (.list (bss.map dInts)) ≤ 64 := by simp only [PyData.depth]; omega
  show (PyData.canLay0 (.list (bss.map dInts)) && decide (PyData.depth (.list (bss.map dInts)) ≤ 64)) = true
  rw [Bool.and_eq_true]
  exact ⟨by simp only [PyData.canLay0]; exact canLay_lists bss, decide_eq_true h2⟩
section
variable {prog : Program} {w : World} {H : Heap} {mg mb : Str → Option Value} {A : Around} {s : Shared} {k : Nat} {env : Env} {m : Str → Option Value}
/-- x not in bss, where it is in it -/
theorem rNotIn {lo c a : Nat} {vs : List Value} {bss : List (List Int)} {xs : List Value} {ns : List Int} {Q : Value → Shared → Prop} (hl : s.heap.IsList c vs.toArray) (hb : All2 (ILo lo s.heap) vs bss) (hx : s.heap.IsList a xs.toArray) (hi : IntsAre xs ns) (hin : ns ∈ bss)
    (hu : A.units + 65 < cLine) (h : Q (.bool false) s) : Wp prog w A (compareOp .NotIn (.ref a) (.ref c)) Q s := by
  obtain ⟨as, ha⟩ := reads_lists hb
  obtain ⟨o, ho, hc, n, hd⟩ := hl
  refine notIn_list_dataH (xs := bss.map dInts) (d := dInts ns) (Reads.list ho hc hd (by simpa using ha)) (reads_of_ints hx hi) (shaped_lists bss) (shaped_ints ns) hu (fun y hy => ?_) ?_
  · obtain ⟨b, _, rfl⟩ := List.mem_map.mp hy
    unfold dInts
    simp only [noMix]
    exact noMix_ints b ns
  · rw [decide_eq_true (countIn_mem hin)]
    exact h
end
end Kk
end

/-! ### W35 -/
section
open PySem PySem.W PySem.Calls PyProof.Rows PySem.Spec PySem.SeqAt Builtin
set_option maxRecDepth 100000
set_option maxHeartbeats 4000000
namespace Kk
/-- some objects turned -/
structure Buts (wr : List Nat) (t u : Shared) : Prop where
  keep : ∀ b o, b ∉ wr → t.heap.get? b = some o → u.heap.get? b = some o
  gens : u.gens = t.gens
  drawn : u.drawn = t.drawn
  os : u.os = t.os
section
variable {n₀ a k : Nat} {wr : List Nat} {D : Addr → Prop} {H : Heap} {A : Around} {s t u v : Shared}
theorem Buts.kept (x : Buts wr t u) (y : Kept u v) : Buts wr t v := ⟨fun b o h e => y.keep b o (x.keep b o h e), y.gens.trans x.gens, y.drawn.trans x.drawn, y.os.trans x.os⟩
theorem Buts.trans (x : Buts wr t u) (y : Buts wr u v) : Buts wr t v := ⟨fun b o h e => y.keep b o h (x.keep b o h e), y.gens.trans x.gens, y.drawn.trans x.drawn, y.os.trans x.os⟩
theorem Past.buts (p : Past n₀ D s t) (x : Buts wr t u) (h : ∀ b ∈ wr, s.heap.objs.size ≤ b) : Past n₀ D s u := by
  refine ⟨fun b o e nd => ?_, x.gens.trans p.gens, x.drawn.trans p.drawn, x.os.trans p.os⟩
  have nb : b ∉ wr := fun hb => Nat.lt_irrefl _ (Nat.lt_of_lt_of_le (Heap.lt_size e) (h b hb))
  rcases p.ext b o e nd with e1 | ⟨h1, h2, sl, e1⟩
  · exact .inl (x.keep b o nb e1)
  · exact .inr ⟨h1, h2, sl, x.keep b _ nb e1⟩
theorem Ok.buts (o : Ok H A t.heap k) (x : Buts wr t u) (hw : ∀ b ∈ wr, H.objs.size ≤ b) (hd : ∀ b ∈ wr, ∀ ob, t.heap.get? b = some ob → ∀ es ep, ob.data ≠ .dict es ep) : Ok H A u.heap k := by
  refine ⟨fun b ob e => x.keep b ob (fun hb => Nat.lt_irrefl _ (Nat.lt_of_lt_of_le (Heap.lt_size e) (hw b hb))) (o.old b ob e), o.depth, o.units, o.handled, ?_⟩
  obtain ⟨l, hl, ne, f⟩ := o.frames
  refine ⟨l, hl, ne, fun env he => ?_⟩
  obtain ⟨hk, L, hf, hL, ob, es, ep, ho, hdd⟩ := f env he
  exact ⟨hk, L, hf, hL, ob, es, ep, x.keep L ob (fun hb => hd L hb ob ho es ep hdd) ho, hdd⟩
theorem Buts.ns {b : Nat} {m : Str → Option Value} (x : Buts wr t u) (h : t.heap.Ns b m) (hb : b ∉ wr) : u.heap.Ns b m := h.at fun o e => x.keep b o hb e
theorem Buts.list {b : Nat} {xs : Array Value} (x : Buts wr t u) (h : t.heap.IsList b xs) (hb : b ∉ wr) : u.heap.IsList b xs := let ⟨o, e, r⟩ := h; ⟨o, x.keep _ _ hb e, r⟩
theorem ILo.buts {lo : Nat} {v : Value} {ns : List Int} (i : ILo lo t.heap v ns) (x : Buts wr t u) (h : ∀ b ∈ wr, ∀ xs, ¬ t.heap.IsList b xs) : ILo lo u.heap v ns :=
  let ⟨a, vs, q, l, i, r⟩ := i; ⟨a, vs, q, l, x.list i fun hb => h a hb _ i, r⟩
theorem LLo.buts {lo : Nat} {v : Value} {nss : List (List Int)} (i : LLo lo t.heap v nss) (x : Buts wr t u) (h : ∀ b ∈ wr, ∀ xs, ¬ t.heap.IsList b xs) : LLo lo u.heap v nss :=
  let ⟨a, vs, q, l, i, r⟩ := i; ⟨a, vs, q, l, x.list i fun hb => h a hb _ i, r.imp fun _ _ z => z.buts x h⟩
end
section
variable {prog : Program} {w : World} {H : Heap} {mg mb : Str → Option Value} {A : Around} {s : Shared} {k : Nat} {env : Env} {m : Str → Option Value}
noncomputable def ZipSt (z TI TO i1 i2 l1 l2 : Nat) (xs ys : Array Value) (i : Nat) (h : Heap) : Prop :=
  IsZip h z TI TO .none ∧ IsPair h TI (.ref i1) (.ref i2) ∧ (∃ a b, IsPair h TO a b) ∧ h.IsListIter i1 l1 i ∧ h.IsListIter i2 l2 i ∧ h.IsList l1 xs ∧ h.IsList l2 ys
/-- for x, y in zip(l1, l2) -/
theorem forZip {z TI TO i1 i2 l1 l2 : Nat} {xs ys : Array Value} {x y : Str} {px py pt : Pos} {c : Nat} {body : List Stmt} {Q : Flow → Shared → Prop} (D : ZipApart z TI TO i1 i2 l1 l2) (I : Nat → Shared → Prop) (hh : A.handled = none)
    (hI : ∀ i t, I i t → ZipSt z TI TO i1 i2 l1 l2 xs ys i t.heap)
    (turn : ∀ i vx vy t u, xs[i]? = some vx → ys[i]? = some vy → I i t → Buts [z, TO, i1, i2] t u → ZipSt z TI TO i1 i2 l1 l2 xs ys (i + 1) u.heap →
      Wp prog w A (storeName env x vx) (fun _ u₂ => Wp prog w A (storeName env y vy) (fun _ u₃ => Wp prog w A (execs body env) (Turn Q (I (i + 1))) u₃) u₂) u)
    (last : ∀ t u, I (min xs.size ys.size) t → Buts [z, TO, i1, i2] t u → Q .next u)
    (h0 : I 0 s) : codeAny (model prog w) A (.forLoop (.Tuple [.Name x px, .Name y py] c pt) (.ref z) body [] env) (OkR Q) s := by
  have W := WalksT.zip2 (prog := prog) (w := w) (A := A) hh z TI TO i1 i2 l1 l2 D xs ys
  refine codeAny_forLoop_any (fun j s => ∃ i, i + j = min xs.size ys.size ∧ I i s) (fun j s hn => ?_) (min xs.size ys.size) ⟨0, Nat.zero_add _, h0⟩
  obtain ⟨i, hi, hs⟩ := hn
  cases j with
  | zero =>
    have e : i = min xs.size ys.size := by omega
    subst e
    refine W.done _ _ _ (hI _ s hs) fun h' tk hk => ?_
    exact Wp.any (execs_nil (last s _ hs ⟨hk, rfl, rfl, rfl⟩))
  | succ j =>
    refine W.item i _ _ _ (by omega) (hI i s hs) fun T vals h' tk hP hT hTup hMid hk => ?_
    obtain ⟨vx, vy, hx, hy, rfl⟩ := hP
    dsimp only
    refine W.go _ _ _ i T _ _ _ hMid fun h2 hSt2 hk2 => ?_
    have b2 : Buts [z, TO, i1, i2] s { s with heap := h2, toks := tk } := ⟨fun b o hb e => hk2 b o hb (hk b o hb e), rfl, rfl, rfl⟩
    have hT2 : Heap.IsTuple h2 T #[vx, vy] := hTup.at fun o e => hk2 T o (W.apart i T _ hMid) e
    refine Wp.any ?_
    show Wp prog w A (do standAt pt; unpack (.ref T) (assignEach [.Name x px, .Name y py] env)) _ _
    refine wpAny_bind (wpAny_standAt ?_)
    unfold unpack
    refine wpAny_bind (wpAny_holding (unpackItems_tuple (items := #[vx, vy]) hh hT2 fun h3 hx3 => ?_))
    have k3 : Kept ({ s with heap := h2, toks := tk } : Shared) { s with heap := h3, toks := tk } := ⟨fun b o e => hx3 b o (Nat.ne_of_lt (Heap.lt_size e)) e, rfl, rfl, rfl⟩
    have St3 : ZipSt z TI TO i1 i2 l1 l2 xs ys (i + 1) h3 := W.frame (i + 1) h2 h3 hSt2 fun b _ o e => k3.keep b o e
    have tt := turn i vx vy s { s with heap := h3, toks := tk } hx hy hs (b2.kept k3) St3
    refine wpAny_bind (wpAny_holding (assign_Name (Wp.anyMono tt fun _ u₂ h₂ => ?_)))
    refine wpAny_bind (wpAny_holding (assign_Name (Wp.anyMono h₂ fun _ u₃ h₃ => ?_)))
    refine wpAny_pure ?_
    refine Wp.anyMono h₃ fun f s₃ hf => ?_
    cases f with
    | next => exact ⟨j, Nat.lt_succ_self _, i + 1, by (clear hSt2 hMid hT; omega), hf⟩
    | cont => exact ⟨j, Nat.lt_succ_self _, i + 1, by (clear hSt2 hMid hT; omega), hf⟩
    | brk => exact hf
    | ret v => exact hf
end
end Kk
end

/-! ### W36 -/
section
open PySem PySem.W PySem.Calls PyProof.Rows PySem.Spec PySem.SeqAt Builtin
set_option maxRecDepth 100000
set_option maxHeartbeats 4000000
namespace Kk
noncomputable def lawBody : List Stmt := match fdLaw.body with
  | .stmts [_, _, _, _, _, .For _ _ b _ _, _] => b
  | _ => []
noncomputable abbrev lawEnv (L fa : Nat) (cd : Value) : Env := envOfC "law" fdLaw.scope L fa cd
/-- only L's table, and what is new, has changed -/
noncomputable def ExtL (L : Nat) (s t : Shared) : Prop := ∀ b o, b ≠ L → s.heap.get? b = some o → (∀ es ep, o.data ≠ .dict es ep) → t.heap.get? b = some o
section
variable {L n₀ a : Nat} {s t u : Shared}
theorem ExtL.refl : ExtL L s s := fun _ _ _ e _ => e
theorem ExtL.past (x : ExtL L s t) (p : Past n₀ Dn t u) : ExtL L s u := fun b o h e d => p.ext.get (x b o h e d) id d
theorem ExtL.kept (x : ExtL L s t) (p : Kept t u) : ExtL L s u := fun b o h e d => p.keep _ _ (x b o h e d)
theorem ExtL.chgL (x : ExtL L s t) (c : Chg L t u) : ExtL L s u := fun b o h e d => (c.same.2 b h).trans (x b o h e d)
theorem ExtL.chg (x : ExtL L s t) (c : Chg a t u) (h : s.heap.objs.size ≤ a) : ExtL L s u := fun b o hb e d => (c.same.2 b (Nat.ne_of_lt (Nat.lt_of_lt_of_le (Heap.lt_size e) h))).trans (x b o hb e d)
theorem ExtL.but (x : ExtL L s t) (c : But a t u) (h : s.heap.objs.size ≤ a) : ExtL L s u := fun b o hb e d => c.keep b o (Nat.ne_of_lt (Nat.lt_of_lt_of_le (Heap.lt_size e) h)) (x b o hb e d)
theorem ExtL.list {b : Nat} {xs : Array Value} {m : Str → Option Value} (x : ExtL L s t) (h : s.heap.IsList b xs) (hn : s.heap.Ns L m) : t.heap.IsList b xs := by
  have ne := list_ne_ns h hn
  obtain ⟨o, e, hc, n, d⟩ := h
  exact ⟨o, x b o ne e (by rw [d]; nofun), hc, n, d⟩
theorem ExtL.iter {b l i : Nat} {m : Str → Option Value} (x : ExtL L s t) (h : s.heap.IsListIter b l i) (hn : s.heap.Ns L m) : t.heap.IsListIter b l i := by
  obtain ⟨o, e, hc, d⟩ := h
  refine ⟨o, x b o ?_ e (by rw [d]; nofun), hc, d⟩
  rintro rfl
  obtain ⟨o', es, ep, e', d', _⟩ := hn
  rw [e] at e'; cases e'; rw [d] at d'; cases d'
theorem ExtL.ilo {lo : Nat} {v : Value} {ns : List Int} {m : Str → Option Value} (x : ExtL L s t) (i : ILo lo s.heap v ns) (hn : s.heap.Ns L m) : ILo lo t.heap v ns :=
  let ⟨a, vs, q, l, i, r⟩ := i; ⟨a, vs, q, l, x.list i hn, r⟩
end
section
variable {prog : Program} {w : World} {H : Heap} {mg mb : Str → Option Value} {A : Around} {s s₀ : Shared} {k : Nat} {m : Str → Option Value}
theorem here_spec (B : Base w H mg mb) {L bl hr fa : Nat} {cd : Value} {bvs hvs : List Value} {bss hss : List (List Int)} {Q : Flow → Shared → Prop} (ok : Ok H A s.heap (k + 10)) (p0 : Past H.objs.size D0 s₀ s) (hL : s₀.heap.objs.size ≤ L) (hz0 : H.objs.size ≤ s₀.heap.objs.size)
    (hns : s.heap.Ns L m) (mb' : m "below" = some (.ref bl)) (mh : m "here" = some (.ref hr)) (lb : s.heap.IsList bl bvs.toArray) (ab : All2 (ILo H.objs.size s.heap) bvs bss) (lh : s.heap.IsList hr hvs.toArray) (ah : All2 (ILo H.objs.size s.heap) hvs hss)
    (hin : ∀ one ∈ hss, ∀ x ∈ one, (one.filter fun z => !([x] : List Int).contains z) ∈ bss) (hel : ∀ one ∈ hss, one.length ≤ 1000)
    (hQ : ∀ u m', Past H.objs.size D0 s₀ u → ExtL L s u → Ok H A u.heap (k + 10) → u.heap.Ns L m' → (∀ x : Str, x ≠ "one" → x ≠ "name" → m' x = m x) → Q .next u) : Wp prog w A (execs lawBody (lawEnv L fa cd)) Q s := by
  have Ll := ns_lt hns
  show Wp prog w A (execs (_ :: _) _) _ _
  refine execs_cons (forStmt (eLocal hns mh ?_))
  refine rIterList lh fun it u hit ku zu iu => ?_
  refine forList (I := fun i t => Past H.objs.size D0 s₀ t ∧ ExtL L s t ∧ Ok H A t.heap (k + 10) ∧ (∃ m', t.heap.Ns L m' ∧ ∀ x : Str, x ≠ "one" → x ≠ "name" → m' x = m x) ∧ t.heap.IsListIter it hr i)
    ok.handled (fun i t ht => ⟨ht.2.2.2.2, ht.2.1.list lh hns⟩) (fun i v t u hv ht c1 it1 => ?_) (fun t u ht c1 => ?_) ⟨p0.kept ku, ExtL.refl.kept ku, ok.kept ku, ⟨m, ku.ns hns, fun _ _ _ => rfl⟩, iu⟩
  · obtain ⟨q0, x0, k0, ⟨m0, n0, e0⟩, it0⟩ := ht
    obtain ⟨one, he, oa, ovs, rfl, hoa, ol, oi⟩ := ah.get (by simpa using hv)
    have ohs := List.mem_of_getElem? he
    refine wpAny_assign_Name (rStoreLoc (L := L) (c1.ns n0 (Nat.ne_of_lt (by (clear hoa zu hz0 hL; omega)))) (fun u2 c2 n2 => ?_) rfl rfl rfl)
    have q2 := (q0.chg c1 (by (clear hoa zu hz0; omega))).chg c2 hL
    have x2 := (x0.chg c1 (by (clear hoa zu Ll hz0 hL; omega))).chgL c2
    have k2 := (k0.chgIter c1 (by (clear hoa zu; omega)) it0).chgNs c2 (by (clear hoa zu hit Ll; omega)) n2
    have it2 := c2.iter it1 (Nat.ne_of_gt (by (clear hoa zu hz0 hL; omega)))
    obtain ⟨m2, n2, e2, f2⟩ : ∃ m', u2.heap.Ns L m' ∧ (∀ x : Str, x ≠ "one" → x ≠ "name" → m' x = m x) ∧ m' "one" = some (.ref oa) := ⟨_, n2, fun x h1 h2 => by rw [if_neg h1]; exact e0 x h1 h2, rfl⟩
    refine execs_cons (forStmt (eLocal n2 f2 ?_))
    refine rIterList (x2.list ol hns) fun jt u3 hjt k3 z3 j3 => ?_
    have itlt : (it : Nat) < jt := by have := isListIter_lt it2; (clear z3 hoa zu hit Ll hz0 hL; omega)
    refine forList (I := fun j t => Past H.objs.size D0 s₀ t ∧ ExtL L s t ∧ Ok H A t.heap (k + 10) ∧ (∃ m', t.heap.Ns L m' ∧ (∀ x : Str, x ≠ "one" → x ≠ "name" → m' x = m x) ∧ m' "one" = some (.ref oa)) ∧ t.heap.IsListIter it hr (i + 1) ∧ t.heap.IsListIter jt oa j)
      ok.handled (fun j t ht => ⟨ht.2.2.2.2.2, ht.2.1.list ol hns⟩) (fun j v t u hv ht c1 jt1 => ?_) (fun t u ht c1 => ?_) ⟨q2.kept k3, x2.kept k3, k2.kept k3, ⟨m2, k3.ns n2, e2, f2⟩, k3.iter it2, j3⟩
    · obtain ⟨q0, x0, k0, ⟨m0, n0, e0, f0⟩, it0, jt0⟩ := ht
      obtain ⟨x, tx, rfl, hx⟩ := ints_get oi (by simpa using hv)
      have hxm := List.mem_of_getElem? hx
      refine wpAny_assign_Name (rStoreLoc (L := L) (c1.ns n0 (Nat.ne_of_lt (by (clear z3 hjt hoa zu hz0 hL; omega)))) (fun u4 c4 n4 => ?_) rfl rfl rfl)
      have q4 := (q0.chg c1 (by (clear z3 hjt hoa zu hz0; omega))).chg c4 hL
      have x4 := (x0.chg c1 (by (clear z3 hjt hoa zu Ll hz0 hL; omega))).chgL c4
      have k4 := (k0.chgIter c1 (by (clear z3 hjt hoa zu; omega)) jt0).chgNs c4 (by (clear itlt z3 hjt hoa zu hit Ll; omega)) n4
      have it4 := c4.iter (c1.iter it0 (Nat.ne_of_lt itlt)) (Nat.ne_of_gt (by (clear itlt z3 hjt hoa zu hz0 hL; omega)))
      have jt4 := c4.iter jt1 (Nat.ne_of_gt (by (clear z3 hjt hoa zu hz0 hL; omega)))
      obtain ⟨m4, n4, e4, f4, g4⟩ : ∃ m', u4.heap.Ns L m' ∧ (∀ x : Str, x ≠ "one" → x ≠ "name" → m' x = m x) ∧ m' "one" = some (.ref oa) ∧ m' "name" = some (.int x tx) := ⟨_, n4, fun y h1 h2 => by rw [if_neg h2]; exact e0 y h1 h2, f0, rfl⟩
      refine execs_cons (wpAny_If (wpAny_isTrue_Compare1 (cType B k4 rfl PyProof.Rows.Boot.«list» rfl rfl (sCons (cFn B k4 rfl (fd := fdDiff) rfl rfl rfl (sCons (eLocal n4 f4 (sCons (List_ ?_)))))))))
      refine sElem (eLocal n4 g4 (sNil (rNewXL (show 1 ≤ 1000 by decide) fun nl u5 hnl k5 z5 l5 => sNil ⟨⟨_, k4.kept k5⟩, ?_⟩)))
      have ok5 := k4.kept k5
      have hol := hel one ohs
      have ol5 : u5.heap.IsList oa ovs.toArray := k5.list (x4.list ol hns)
      refine diff_spec B (k := k + 5) ok5 ol5 l5.list (.cons x tx .nil) (by simp) fun x1 it1 u6 e1 e2 e3 p6 d6 => sNil ?_
      have ok6 := ok5.past p6
      refine list_ff B (k := k + 2) ok6 d6 (p6.list ol5) oi (by have := ok5.size; (clear e3 e1 hol z5 hnl itlt z3 hjt hoa zu hit Ll hz0 hL; omega)) (by have := ok5.size; (clear e3 e2 hol z5 hnl itlt z3 hjt hoa zu hit Ll hz0 hL; omega)) hol fun a1 u7 vs1 e7 p7 l7 v7 => ?_
      have p57 : Past H.objs.size Dn u5 u7 := Past.fresh p6 p7 fun b hb => by subst hb; exact e1
      have ok7 := ok5.past p57
      have x7 := (x4.kept k5).past p57
      have q7 : Past H.objs.size D0 s₀ u7 := (q4.kept k5).trans p57.weak0
      have n7 := p57.ns (k5.ns n4)
      refine eLocal n7 (by rw [e4 _ (by decide) (by decide)]; exact mb') ?_
      refine rNotIn (x7.list lb hns) (ab.imp fun _ _ z => x7.ilo z hns) l7.list v7 (hin one ohs x hxm) (by have := ok7.units; (clear e7 e3 e2 e1 hol z5 hnl itlt z3 hjt hoa zu hit Ll hz0 hL; omega)) (wpAny_truthy_bool ?_)
      rw [if_neg (by decide)]
      refine execs_nil (execs_nil ?_)
      exact ⟨q7, x7, ok7, ⟨m4, n7, e4, f4⟩, p57.iter (k5.iter it4), p57.iter (k5.iter jt4)⟩
    · obtain ⟨q0, x0, k0, ⟨m0, n0, e0, f0⟩, it0, jt0⟩ := ht
      refine execs_nil (execs_nil ?_)
      exact ⟨q0.butt c1 (by (clear z3 hjt hoa zu hz0; omega)), x0.but c1 (by (clear z3 hjt hoa zu Ll hz0 hL; omega)), k0.butIter c1 (by (clear z3 hjt hoa zu; omega)) jt0, ⟨m0, c1.ns n0 (Nat.ne_of_lt (by (clear z3 hjt hoa zu hz0 hL; omega))), e0⟩, c1.iter it0 (Nat.ne_of_lt itlt)⟩
  · obtain ⟨q0, x0, k0, ⟨m0, n0, e0⟩, it0⟩ := ht
    refine execs_nil (execs_nil ?_)
    exact hQ u m0 (q0.butt c1 (by (clear zu hz0; omega))) (x0.but c1 (by (clear zu Ll hz0 hL; omega))) (k0.butIter c1 (by (clear zu; omega)) it0) (c1.ns n0 (Nat.ne_of_lt (by (clear zu hz0 hL; omega)))) e0
end
end Kk
end

/-! ### P1 -/
section
open PySem PySem.W PySem.Calls PyProof.Rows PySem.Spec Builtin
set_option maxRecDepth 100000
set_option maxHeartbeats 4000000
namespace Kk
noncomputable def combos (i : Nat) : List (List Int) := setsF [0, 1, 2, 3, 4, 5] i
noncomputable def ltK (i a b : Nat) : Option Bool := match (combos i)[a]?, (combos i)[b]? with
  | some P, some R => (match (P.filter fun z => !R.contains z).getLast?, (R.filter fun z => !P.contains z).getLast? with
    | some p, some r => some (decide (p - r < 0))
    | _, _ => none)
  | _, _ => none
noncomputable def permK : Nat → Array Nat
  | 1 => #[0, 1, 2, 3, 4, 5]
  | 2 => #[0, 1, 5, 2, 6, 9, 3, 7, 10, 12, 4, 8, 11, 13, 14]
  | _ => #[0, 1, 4, 10, 2, 5, 11, 7, 13, 16, 3, 6, 12, 8, 14, 17, 9, 15, 18, 19]
theorem run1 : runK (ltK 1) (kas_sort 6) = some (permK 1) := by decide +kernel
theorem run2 : runK (ltK 2) (kas_sort 15) = some (permK 2) := by decide +kernel
theorem run3 : runK (ltK 3) (kas_sort 20) = some (permK 3) := by decide +kernel
end Kk
end

/-! ### P2 -/
section
open PySem
set_option maxRecDepth 100000
set_option maxHeartbeats 4000000
namespace Kk
/-- Kruskal and Katona's bound for triangles -/
noncomputable def kk3 (e : Nat) : Nat := [0, 0, 0, 1, 1, 2, 4, 4, 5, 7, 10, 10, 11, 13, 16, 20].getD e 0
noncomputable def c2 (v : Nat) : Nat := [0, 0, 1, 3, 6, 10, 15].getD v 0
theorem kk_step : ∀ e, e < 11 → ∀ s, s < 6 → kk3 e + min e (c2 s) ≤ kk3 (e + s) := by decide
theorem kk_add {t e s q : Nat} (ht : t ≤ kk3 e) (he : e ≤ 10) (hs : s ≤ 5) (h1 : q ≤ e) (h2 : q ≤ c2 s) : t + q ≤ kk3 (e + s) := by
  have := kk_step e (by (clear h2 h1 hs ht; omega)) s (by (clear h2 h1 he ht; omega))
  have : q ≤ min e (c2 s) := by (clear this hs he ht; omega)
  (clear this hs he; omega)
noncomputable abbrev bn (b : Bool) : Nat := b.toNat
theorem bn_le (b : Bool) : bn b ≤ 1 := by cases b <;> decide
theorem bn_and3 (a b c : Bool) : bn (a && b && c) ≤ bn a := by cases a <;> cases b <;> cases c <;> decide
theorem bn_and3' (a b c : Bool) : bn (a && b && c) ≤ bn (b && c) := by cases a <;> cases b <;> cases c <;> decide
theorem c2_2 : ∀ a b : Bool, bn (a && b) = c2 (bn a + bn b) := by decide
theorem c2_3 : ∀ a b c : Bool, bn (a && b) + bn (a && c) + bn (b && c) = c2 (bn a + bn b + bn c) := by decide
theorem c2_4 : ∀ a b c d : Bool, bn (a && b) + bn (a && c) + bn (a && d) + bn (b && c) + bn (b && d) + bn (c && d) = c2 (bn a + bn b + bn c + bn d) := by decide
theorem c2_5 : ∀ a b c d e : Bool, bn (a && b) + bn (a && c) + bn (a && d) + bn (a && e) + bn (b && c) + bn (b && d) + bn (b && e) + bn (c && d) + bn (c && e) + bn (d && e) = c2 (bn a + bn b + bn c + bn d + bn e) := by decide
theorem c2_6 : ∀ a b c d e f : Bool, bn (a && b) + bn (a && c) + bn (a && d) + bn (a && e) + bn (a && f) + bn (b && c) + bn (b && d) + bn (b && e) + bn (b && f) + bn (c && d) + bn (c && e) + bn (c && f) + bn (d && e) + bn (d && f) + bn (e && f) = c2 (bn a + bn b + bn c + bn d + bn e + bn f) := by decide
theorem tri3 (e01 e02 e12 : Bool) : bn (e01 && e02 && e12) ≤ kk3 (bn e01 + bn e02 + bn e12) := by revert e01 e02 e12; decide
theorem tri4 (e01 e02 e12 e03 e13 e23 : Bool) : bn (e01 && e02 && e12) + (bn (e01 && e03 && e13) + bn (e02 && e03 && e23) + bn (e12 && e13 && e23)) ≤ kk3 (bn e01 + bn e02 + bn e12 + (bn e03 + bn e13 + bn e23)) := by
  have b1 := bn_le e01; have b2 := bn_le e02; have b3 := bn_le e12; have b4 := bn_le e03; have b5 := bn_le e13; have b6 := bn_le e23
  refine kk_add (tri3 e01 e02 e12) (by (clear b6 b5 b4; omega)) (by (clear b3 b2 b1; omega)) ?_ ?_
  · have := bn_and3 e01 e03 e13; have := bn_and3 e02 e03 e23; have := bn_and3 e12 e13 e23
    (clear b6 b5 b4 b3 b2 b1; omega)
  · have h := c2_3 e03 e13 e23
    have := bn_and3' e01 e03 e13; have := bn_and3' e02 e03 e23; have := bn_and3' e12 e13 e23
    (clear b6 b5 b4 b3 b2 b1; omega)
theorem tri5 (e01 e02 e12 e03 e13 e23 e04 e14 e24 e34 : Bool) : bn (e01 && e02 && e12) + (bn (e01 && e03 && e13) + bn (e02 && e03 && e23) + bn (e12 && e13 && e23)) +
      (bn (e01 && e04 && e14) + bn (e02 && e04 && e24) + bn (e12 && e14 && e24) + bn (e03 && e04 && e34) + bn (e13 && e14 && e34) + bn (e23 && e24 && e34)) ≤
    kk3 (bn e01 + bn e02 + bn e12 + (bn e03 + bn e13 + bn e23) + (bn e04 + bn e14 + bn e24 + bn e34)) := by
  have b1 := bn_le e01; have b2 := bn_le e02; have b3 := bn_le e12; have b4 := bn_le e03; have b5 := bn_le e13; have b6 := bn_le e23
  have b7 := bn_le e04; have b8 := bn_le e14; have b9 := bn_le e24; have b10 := bn_le e34
  refine kk_add (tri4 e01 e02 e12 e03 e13 e23) (by (clear b10 b9 b8 b7; omega)) (by (clear b6 b5 b4 b3 b2 b1; omega)) ?_ ?_
  · have := bn_and3 e01 e04 e14; have := bn_and3 e02 e04 e24; have := bn_and3 e12 e14 e24; have := bn_and3 e03 e04 e34; have := bn_and3 e13 e14 e34; have := bn_and3 e23 e24 e34
    (clear b10 b9 b8 b7 b6 b5 b4 b3 b2 b1; omega)
  · have h := c2_4 e04 e14 e24 e34
    have := bn_and3' e01 e04 e14; have := bn_and3' e02 e04 e24; have := bn_and3' e12 e14 e24; have := bn_and3' e03 e04 e34; have := bn_and3' e13 e14 e34; have := bn_and3' e23 e24 e34
    (clear b10 b9 b8 b7 b6 b5 b4 b3 b2 b1; omega)
theorem tri6 (e01 e02 e12 e03 e13 e23 e04 e14 e24 e34 e05 e15 e25 e35 e45 : Bool) : bn (e01 && e02 && e12) + (bn (e01 && e03 && e13) + bn (e02 && e03 && e23) + bn (e12 && e13 && e23)) +
      (bn (e01 && e04 && e14) + bn (e02 && e04 && e24) + bn (e12 && e14 && e24) + bn (e03 && e04 && e34) + bn (e13 && e14 && e34) + bn (e23 && e24 && e34)) +
      (bn (e01 && e05 && e15) + bn (e02 && e05 && e25) + bn (e12 && e15 && e25) + bn (e03 && e05 && e35) + bn (e13 && e15 && e35) + bn (e23 && e25 && e35) + bn (e04 && e05 && e45) + bn (e14 && e15 && e45) + bn (e24 && e25 && e45) + bn (e34 && e35 && e45)) ≤
    kk3 (bn e01 + bn e02 + bn e12 + (bn e03 + bn e13 + bn e23) + (bn e04 + bn e14 + bn e24 + bn e34) + (bn e05 + bn e15 + bn e25 + bn e35 + bn e45)) := by
  have b1 := bn_le e01; have b2 := bn_le e02; have b3 := bn_le e12; have b4 := bn_le e03; have b5 := bn_le e13; have b6 := bn_le e23
  have b7 := bn_le e04; have b8 := bn_le e14; have b9 := bn_le e24; have b10 := bn_le e34
  have b11 := bn_le e05; have b12 := bn_le e15; have b13 := bn_le e25; have b14 := bn_le e35; have b15 := bn_le e45
  refine kk_add (tri5 e01 e02 e12 e03 e13 e23 e04 e14 e24 e34) (by (clear b15 b14 b13 b12 b11; omega)) (by (clear b10 b9 b8 b7 b6 b5 b4 b3 b2 b1; omega)) ?_ ?_
  · have := bn_and3 e01 e05 e15; have := bn_and3 e02 e05 e25; have := bn_and3 e12 e15 e25; have := bn_and3 e03 e05 e35; have := bn_and3 e13 e15 e35; have := bn_and3 e23 e25 e35
    have := bn_and3 e04 e05 e45; have := bn_and3 e14 e15 e45; have := bn_and3 e24 e25 e45; have := bn_and3 e34 e35 e45
    (clear b15 b14 b13 b12 b11 b10 b9 b8 b7 b6 b5 b4 b3 b2 b1; omega)
  · have h := c2_5 e05 e15 e25 e35 e45
    have := bn_and3' e01 e05 e15; have := bn_and3' e02 e05 e25; have := bn_and3' e12 e15 e25; have := bn_and3' e03 e05 e35; have := bn_and3' e13 e15 e35; have := bn_and3' e23 e25 e35
    have := bn_and3' e04 e05 e45; have := bn_and3' e14 e15 e45; have := bn_and3' e24 e25 e45; have := bn_and3' e34 e35 e45
    (clear b15 b14 b13 b12 b11 b10 b9 b8 b7 b6 b5 b4 b3 b2 b1; omega)
theorem filter_len {α : Type} (q : α → Bool) (l : List α) : (l.filter q).length = (l.map fun x => bn (q x)).sum := by
  induction l with
  | nil => rfl
  | cons x l ih =>
    rw [List.filter_cons, List.map_cons, List.sum_cons]
    cases h : q x <;> simp [ih] <;> (clear ih; omega)
theorem held_mono {pss : List (List Int)} {S S' : List Int} (hs : ∀ x ∈ S', x ∈ S) (h : heldF pss S = true) : heldF pss S' = true := by
  unfold heldF at h ⊢
  rw [List.any_eq_true] at h ⊢
  obtain ⟨big, hb, h⟩ := h
  rw [List.all_eq_true] at h
  exact ⟨big, hb, List.all_eq_true.mpr fun x hx => h x (hs x hx)⟩
theorem bn_imp {a b : Bool} (h : a = true → b = true) : bn a ≤ bn b := by cases a <;> cases b <;> simp_all
theorem bn_imp2 {a b c : Bool} (h1 : a = true → b = true) (h2 : a = true → c = true) : bn a ≤ bn (b && c) := by cases a <;> cases b <;> cases c <;> simp_all
theorem bn_imp3 {a b c d : Bool} (h1 : a = true → b = true) (h2 : a = true → c = true) (h3 : a = true → d = true) : bn a ≤ bn (b && c && d) := by cases a <;> cases b <;> cases c <;> cases d <;> simp_all
end Kk
end

/-! ### P3 -/
section
open PySem
set_option maxRecDepth 100000
set_option maxHeartbeats 4000000
namespace Kk
section
variable (n0 n1 n2 n3 n4 n5 : Int) (pss : List (List Int))
noncomputable def cntH (os : List Int) (pss : List (List Int)) (i : Nat) : Nat := ((setsF os i).filter (heldF pss)).length
theorem cnt1_eq : cntH [n0, n1, n2, n3, n4, n5] pss 1 = bn (heldF pss [n0]) + bn (heldF pss [n1]) + bn (heldF pss [n2]) + bn (heldF pss [n3]) + bn (heldF pss [n4]) + bn (heldF pss [n5]) := by
  unfold cntH
  rw [filter_len, show setsF [n0, n1, n2, n3, n4, n5] 1 = [[n0], [n1], [n2], [n3], [n4], [n5]] from rfl]
  simp only [List.map_cons, List.map_nil, List.sum_cons, List.sum_nil]
  omega
theorem cnt2_eq : cntH [n0, n1, n2, n3, n4, n5] pss 2 = bn (heldF pss [n0, n1]) + bn (heldF pss [n0, n2]) + bn (heldF pss [n0, n3]) + bn (heldF pss [n0, n4]) + bn (heldF pss [n0, n5]) + bn (heldF pss [n1, n2]) + bn (heldF pss [n1, n3]) + bn (heldF pss [n1, n4]) + bn (heldF pss [n1, n5]) + bn (heldF pss [n2, n3]) + bn (heldF pss [n2, n4]) + bn (heldF pss [n2, n5]) + bn (heldF pss [n3, n4]) + bn (heldF pss [n3, n5]) + bn (heldF pss [n4, n5]) := by
  unfold cntH
  rw [filter_len, show setsF [n0, n1, n2, n3, n4, n5] 2 = [[n0, n1], [n0, n2], [n0, n3], [n0, n4], [n0, n5], [n1, n2], [n1, n3], [n1, n4], [n1, n5], [n2, n3], [n2, n4], [n2, n5], [n3, n4], [n3, n5], [n4, n5]] from rfl]
  simp only [List.map_cons, List.map_nil, List.sum_cons, List.sum_nil]
  omega
theorem cnt3_eq : cntH [n0, n1, n2, n3, n4, n5] pss 3 = bn (heldF pss [n0, n1, n2]) + bn (heldF pss [n0, n1, n3]) + bn (heldF pss [n0, n1, n4]) + bn (heldF pss [n0, n1, n5]) + bn (heldF pss [n0, n2, n3]) + bn (heldF pss [n0, n2, n4]) + bn (heldF pss [n0, n2, n5]) + bn (heldF pss [n0, n3, n4]) + bn (heldF pss [n0, n3, n5]) + bn (heldF pss [n0, n4, n5]) + bn (heldF pss [n1, n2, n3]) + bn (heldF pss [n1, n2, n4]) + bn (heldF pss [n1, n2, n5]) + bn (heldF pss [n1, n3, n4]) + bn (heldF pss [n1, n3, n5]) + bn (heldF pss [n1, n4, n5]) + bn (heldF pss [n2, n3, n4]) + bn (heldF pss [n2, n3, n5]) + bn (heldF pss [n2, n4, n5]) + bn (heldF pss [n3, n4, n5]) := by
  unfold cntH
  rw [filter_len, show setsF [n0, n1, n2, n3, n4, n5] 3 = [[n0, n1, n2], [n0, n1, n3], [n0, n1, n4], [n0, n1, n5], [n0, n2, n3], [n0, n2, n4], [n0, n2, n5], [n0, n3, n4], [n0, n3, n5], [n0, n4, n5], [n1, n2, n3], [n1, n2, n4], [n1, n2, n5], [n1, n3, n4], [n1, n3, n5], [n1, n4, n5], [n2, n3, n4], [n2, n3, n5], [n2, n4, n5], [n3, n4, n5]] from rfl]
  simp only [List.map_cons, List.map_nil, List.sum_cons, List.sum_nil]
  omega
theorem cnt21 : cntH [n0, n1, n2, n3, n4, n5] pss 2 ≤ c2 (cntH [n0, n1, n2, n3, n4, n5] pss 1) := by
  rw [cnt1_eq, cnt2_eq, ← c2_6]
  have h01 := bn_imp2 (a := heldF pss [n0, n1]) (b := heldF pss [n0]) (c := heldF pss [n1]) (held_mono (by simp)) (held_mono (by simp))
  have h02 := bn_imp2 (a := heldF pss [n0, n2]) (b := heldF pss [n0]) (c := heldF pss [n2]) (held_mono (by simp)) (held_mono (by simp))
  have h03 := bn_imp2 (a := heldF pss [n0, n3]) (b := heldF pss [n0]) (c := heldF pss [n3]) (held_mono (by simp)) (held_mono (by simp))
  have h04 := bn_imp2 (a := heldF pss [n0, n4]) (b := heldF pss [n0]) (c := heldF pss [n4]) (held_mono (by simp)) (held_mono (by simp))
  have h05 := bn_imp2 (a := heldF pss [n0, n5]) (b := heldF pss [n0]) (c := heldF pss [n5]) (held_mono (by simp)) (held_mono (by simp))
  have h12 := bn_imp2 (a := heldF pss [n1, n2]) (b := heldF pss [n1]) (c := heldF pss [n2]) (held_mono (by simp)) (held_mono (by simp))
  have h13 := bn_imp2 (a := heldF pss [n1, n3]) (b := heldF pss [n1]) (c := heldF pss [n3]) (held_mono (by simp)) (held_mono (by simp))
  have h14 := bn_imp2 (a := heldF pss [n1, n4]) (b := heldF pss [n1]) (c := heldF pss [n4]) (held_mono (by simp)) (held_mono (by simp))
  have h15 := bn_imp2 (a := heldF pss [n1, n5]) (b := heldF pss [n1]) (c := heldF pss [n5]) (held_mono (by simp)) (held_mono (by simp))
  have h23 := bn_imp2 (a := heldF pss [n2, n3]) (b := heldF pss [n2]) (c := heldF pss [n3]) (held_mono (by simp)) (held_mono (by simp))
  have h24 := bn_imp2 (a := heldF pss [n2, n4]) (b := heldF pss [n2]) (c := heldF pss [n4]) (held_mono (by simp)) (held_mono (by simp))
  have h25 := bn_imp2 (a := heldF pss [n2, n5]) (b := heldF pss [n2]) (c := heldF pss [n5]) (held_mono (by simp)) (held_mono (by simp))
  have h34 := bn_imp2 (a := heldF pss [n3, n4]) (b := heldF pss [n3]) (c := heldF pss [n4]) (held_mono (by simp)) (held_mono (by simp))
  have h35 := bn_imp2 (a := heldF pss [n3, n5]) (b := heldF pss [n3]) (c := heldF pss [n5]) (held_mono (by simp)) (held_mono (by simp))
  have h45 := bn_imp2 (a := heldF pss [n4, n5]) (b := heldF pss [n4]) (c := heldF pss [n5]) (held_mono (by simp)) (held_mono (by simp))
  omega
theorem cnt32 : cntH [n0, n1, n2, n3, n4, n5] pss 3 ≤ kk3 (cntH [n0, n1, n2, n3, n4, n5] pss 2) := by
  rw [cnt2_eq, cnt3_eq]
  have h012 := bn_imp3 (a := heldF pss [n0, n1, n2]) (b := heldF pss [n0, n1]) (c := heldF pss [n0, n2]) (d := heldF pss [n1, n2]) (held_mono (by simp)) (held_mono (by simp)) (held_mono (by simp))
  have h013 := bn_imp3 (a := heldF pss [n0, n1, n3]) (b := heldF pss [n0, n1]) (c := heldF pss [n0, n3]) (d := heldF pss [n1, n3]) (held_mono (by simp)) (held_mono (by simp)) (held_mono (by simp))
  have h014 := bn_imp3 (a := heldF pss [n0, n1, n4]) (b := heldF pss [n0, n1]) (c := heldF pss [n0, n4]) (d := heldF pss [n1, n4]) (held_mono (by simp)) (held_mono (by simp)) (held_mono (by simp))
  have h015 := bn_imp3 (a := heldF pss [n0, n1, n5]) (b := heldF pss [n0, n1]) (c := heldF pss [n0, n5]) (d := heldF pss [n1, n5]) (held_mono (by simp)) (held_mono (by simp)) (held_mono (by simp))
  have h023 := bn_imp3 (a := heldF pss [n0, n2, n3]) (b := heldF pss [n0, n2]) (c := heldF pss [n0, n3]) (d := heldF pss [n2, n3]) (held_mono (by simp)) (held_mono (by simp)) (held_mono (by simp))
  have h024 := bn_imp3 (a := heldF pss [n0, n2, n4]) (b := heldF pss [n0, n2]) (c := heldF pss [n0, n4]) (d := heldF pss [n2, n4]) (held_mono (by simp)) (held_mono (by simp)) (held_mono (by simp))
  have h025 := bn_imp3 (a := heldF pss [n0, n2, n5]) (b := heldF pss [n0, n2]) (c := heldF pss [n0, n5]) (d := heldF pss [n2, n5]) (held_mono (by simp)) (held_mono (by simp)) (held_mono (by simp))
  have h034 := bn_imp3 (a := heldF pss [n0, n3, n4]) (b := heldF pss [n0, n3]) (c := heldF pss [n0, n4]) (d := heldF pss [n3, n4]) (held_mono (by simp)) (held_mono (by simp)) (held_mono (by simp))
  have h035 := bn_imp3 (a := heldF pss [n0, n3, n5]) (b := heldF pss [n0, n3]) (c := heldF pss [n0, n5]) (d := heldF pss [n3, n5]) (held_mono (by simp)) (held_mono (by simp)) (held_mono (by simp))
  have h045 := bn_imp3 (a := heldF pss [n0, n4, n5]) (b := heldF pss [n0, n4]) (c := heldF pss [n0, n5]) (d := heldF pss [n4, n5]) (held_mono (by simp)) (held_mono (by simp)) (held_mono (by simp))
  have h123 := bn_imp3 (a := heldF pss [n1, n2, n3]) (b := heldF pss [n1, n2]) (c := heldF pss [n1, n3]) (d := heldF pss [n2, n3]) (held_mono (by simp)) (held_mono (by simp)) (held_mono (by simp))
  have h124 := bn_imp3 (a := heldF pss [n1, n2, n4]) (b := heldF pss [n1, n2]) (c := heldF pss [n1, n4]) (d := heldF pss [n2, n4]) (held_mono (by simp)) (held_mono (by simp)) (held_mono (by simp))
  have h125 := bn_imp3 (a := heldF pss [n1, n2, n5]) (b := heldF pss [n1, n2]) (c := heldF pss [n1, n5]) (d := heldF pss [n2, n5]) (held_mono (by simp)) (held_mono (by simp)) (held_mono (by simp))
  have h134 := bn_imp3 (a := heldF pss [n1, n3, n4]) (b := heldF pss [n1, n3]) (c := heldF pss [n1, n4]) (d := heldF pss [n3, n4]) (held_mono (by simp)) (held_mono (by simp)) (held_mono (by simp))
  have h135 := bn_imp3 (a := heldF pss [n1, n3, n5]) (b := heldF pss [n1, n3]) (c := heldF pss [n1, n5]) (d := heldF pss [n3, n5]) (held_mono (by simp)) (held_mono (by simp)) (held_mono (by simp))
  have h145 := bn_imp3 (a := heldF pss [n1, n4, n5]) (b := heldF pss [n1, n4]) (c := heldF pss [n1, n5]) (d := heldF pss [n4, n5]) (held_mono (by simp)) (held_mono (by simp)) (held_mono (by simp))
  have h234 := bn_imp3 (a := heldF pss [n2, n3, n4]) (b := heldF pss [n2, n3]) (c := heldF pss [n2, n4]) (d := heldF pss [n3, n4]) (held_mono (by simp)) (held_mono (by simp)) (held_mono (by simp))
  have h235 := bn_imp3 (a := heldF pss [n2, n3, n5]) (b := heldF pss [n2, n3]) (c := heldF pss [n2, n5]) (d := heldF pss [n3, n5]) (held_mono (by simp)) (held_mono (by simp)) (held_mono (by simp))
  have h245 := bn_imp3 (a := heldF pss [n2, n4, n5]) (b := heldF pss [n2, n4]) (c := heldF pss [n2, n5]) (d := heldF pss [n4, n5]) (held_mono (by simp)) (held_mono (by simp)) (held_mono (by simp))
  have h345 := bn_imp3 (a := heldF pss [n3, n4, n5]) (b := heldF pss [n3, n4]) (c := heldF pss [n3, n5]) (d := heldF pss [n4, n5]) (held_mono (by simp)) (held_mono (by simp)) (held_mono (by simp))
  have h := tri6 (heldF pss [n0, n1]) (heldF pss [n0, n2]) (heldF pss [n1, n2]) (heldF pss [n0, n3]) (heldF pss [n1, n3]) (heldF pss [n2, n3]) (heldF pss [n0, n4]) (heldF pss [n1, n4]) (heldF pss [n2, n4]) (heldF pss [n3, n4]) (heldF pss [n0, n5]) (heldF pss [n1, n5]) (heldF pss [n2, n5]) (heldF pss [n3, n5]) (heldF pss [n4, n5])
  have e : bn (heldF pss [n0, n1]) + bn (heldF pss [n0, n2]) + bn (heldF pss [n0, n3]) + bn (heldF pss [n0, n4]) + bn (heldF pss [n0, n5]) + bn (heldF pss [n1, n2]) + bn (heldF pss [n1, n3]) + bn (heldF pss [n1, n4]) + bn (heldF pss [n1, n5]) + bn (heldF pss [n2, n3]) + bn (heldF pss [n2, n4]) + bn (heldF pss [n2, n5]) + bn (heldF pss [n3, n4]) + bn (heldF pss [n3, n5]) + bn (heldF pss [n4, n5]) = bn (heldF pss [n0, n1]) + bn (heldF pss [n0, n2]) + bn (heldF pss [n1, n2]) + (bn (heldF pss [n0, n3]) + bn (heldF pss [n1, n3]) + bn (heldF pss [n2, n3])) + (bn (heldF pss [n0, n4]) + bn (heldF pss [n1, n4]) + bn (heldF pss [n2, n4]) + bn (heldF pss [n3, n4])) + (bn (heldF pss [n0, n5]) + bn (heldF pss [n1, n5]) + bn (heldF pss [n2, n5]) + bn (heldF pss [n3, n5]) + bn (heldF pss [n4, n5])) := by (clear h h345 h245 h235 h234 h145 h135 h134 h125 h124 h123 h045 h035 h034 h025 h024 h023 h015 h014 h013 h012; omega)
  rw [e]
  refine Nat.le_trans ?_ h
  (clear e h; omega)
end
end Kk
end

/-! ### P4 -/
section
open PySem
set_option maxRecDepth 100000
set_option maxHeartbeats 4000000
namespace Kk
noncomputable abbrev six : List Int := [0, 1, 2, 3, 4, 5]
noncomputable def nmF (os : List Int) (p : Int) : Int := os.getD p.toNat 0
noncomputable def placesF (os : List Int) : List Int := (List.range 6).map fun (j : Nat) => ((os.findIdx fun z => z == ((j : Nat) : Int) : Nat) : Int)
theorem placesF_len (os : List Int) : (placesF os).length = 6 := by simp [placesF]
theorem setsF_map (f : Int → Int) : ∀ (l : List Int) (n : Nat), setsF (l.map f) n = (setsF l n).map (List.map f)
  | l, 0 => by cases l <;> rfl
  | [], n + 1 => rfl
  | x :: xs, n + 1 => by
    show (setsF (xs.map f) n).map (f x :: ·) ++ setsF (xs.map f) (n + 1) = ((setsF xs n).map (x :: ·) ++ setsF xs (n + 1)).map (List.map f)
    rw [setsF_map f xs n, setsF_map f xs (n + 1), List.map_append, List.map_map, List.map_map]
    rfl
theorem six_of {os : List Int} (h : os.length = 6) : ∃ n0 n1 n2 n3 n4 n5, os = [n0, n1, n2, n3, n4, n5] := by
  match os, h with
  | [n0, n1, n2, n3, n4, n5], _ => exact ⟨n0, n1, n2, n3, n4, n5, rfl⟩
theorem os_map {os : List Int} (h : os.length = 6) : os = six.map (nmF os) := by
  obtain ⟨n0, n1, n2, n3, n4, n5, rfl⟩ := six_of h
  rfl
section
variable {os : List Int} (hp : os.Perm six)
include hp
theorem os_len : os.length = 6 := hp.length_eq
theorem os_nodup : os.Nodup := hp.nodup_iff.mpr (by decide)
theorem nmF_get {p : Int} (h : p ∈ six) : os[p.toNat]? = some (nmF os p) ∧ p.toNat < 6 ∧ (p.toNat : Int) = p := by
  have h6 : p.toNat < 6 := by revert p; decide
  have hl := os_len hp
  refine ⟨?_, h6, by revert p; decide⟩
  unfold nmF
  rw [List.getD_eq_getElem?_getD]
  simp [hl, h6]
theorem nmF_inj {p q : Int} (h1 : p ∈ six) (h2 : q ∈ six) (e : nmF os p = nmF os q) : p = q := by
  obtain ⟨a1, a2, a3⟩ := nmF_get hp h1
  obtain ⟨b1, b2, b3⟩ := nmF_get hp h2
  have := (List.nodup_iff_pairwise_ne.mp (os_nodup hp))
  rw [e, ← b1] at a1
  have hl := os_len hp
  have i := (List.getElem?_inj (by (clear b3 b2 a3 e; omega)) (os_nodup hp)).mp a1
  (clear hl b2 a2 e; omega)
theorem nmF_mem {p : Int} (h : p ∈ six) : nmF os p ∈ six := hp.mem_iff.mp (List.mem_of_getElem? (nmF_get hp h).1)
theorem filter_nm {S R : List Int} (hS : ∀ p ∈ S, p ∈ six) (hR : ∀ p ∈ R, p ∈ six) :
    ((S.map (nmF os)).filter fun z => !(R.map (nmF os)).contains z) = (S.filter fun z => !R.contains z).map (nmF os) := by
  rw [List.filter_map]
  congr 1
  refine List.filter_congr fun z hz => ?_
  show (!(R.map (nmF os)).contains (nmF os z)) = !R.contains z
  congr 1
  rw [Bool.eq_iff_iff, List.contains_iff_mem, List.contains_iff_mem, List.mem_map]
  exact ⟨fun ⟨q, hq, e⟩ => nmF_inj hp (hR q hq) (hS z hz) e ▸ hq, fun h => ⟨z, h, rfl⟩⟩
theorem placesF_get {p : Int} (h : p ∈ six) : 0 ≤ nmF os p ∧ (placesF os)[(nmF os p).toNat]? = some p := by
  obtain ⟨a1, a2, a3⟩ := nmF_get hp h
  have hm := nmF_mem hp h
  have h0 : 0 ≤ nmF os p := by
    revert hm; generalize nmF os p = q; revert q; decide
  obtain ⟨b1, b2, b3⟩ := nmF_get hp hm
  refine ⟨h0, ?_⟩
  have hl := os_len hp
  unfold placesF
  rw [List.getElem?_map, List.getElem?_range b2]
  simp only [Option.map_some, b3]
  have e : os.findIdx (fun z => z == nmF os p) = p.toNat := by
    have hx : os[p.toNat] = nmF os p := by
      rw [List.getElem?_eq_getElem (by (clear b3 b2 h0 a3; omega))] at a1
      exact Option.some.inj a1
    refine (List.findIdx_eq (by (clear hx b3 b2 h0 a3; omega))).mpr ⟨by rw [hx]; simp, fun j hj => ?_⟩
    rw [beq_eq_false_iff_ne]
    intro q
    have hj6 : j < os.length := by (clear q hx b3 b2 h0 a3; omega)
    have e1 : os[j]? = os[p.toNat]? := by rw [a1, List.getElem?_eq_getElem hj6, q]
    have := (List.getElem?_inj (by (clear hj6 q hx b3 b2 h0 a3; omega)) (os_nodup hp)).mp e1
    (clear hj6 q hx hl b3 b2 h0 a3 a2; omega)
  rw [e, a3]
omit hp in
theorem combos_six : ∀ i, i < 4 → ∀ P ∈ combos i, ∀ p ∈ P, p ∈ six := by decide
theorem setsF_os (i : Nat) : setsF os i = (combos i).map (List.map (nmF os)) := by
  conv => lhs; rw [os_map (os_len hp)]
  exact setsF_map (nmF os) six i
/-- the sort's answers are those of the comparing -/
theorem pl_lt {i : Nat} (hi : i < 4) (a b : Nat) (bb : Bool) (h : ltK i a b = some bb) : ∃ os' ns' x y u v, (setsF os i)[a]? = some os' ∧ (setsF os i)[b]? = some ns' ∧ (os'.filter (fun z => !ns'.contains z)).getLast? = some x ∧ (ns'.filter (fun z => !os'.contains z)).getLast? = some y ∧
    0 ≤ x ∧ 0 ≤ y ∧ (placesF os)[x.toNat]? = some u ∧ (placesF os)[y.toNat]? = some v ∧ bb = decide (u - v < 0) := by
  unfold ltK at h
  split at h
  · rename_i P R h1 h2
    split at h
    · rename_i p r h3 h4
      cases h
      have hP := combos_six i hi P (List.mem_of_getElem? h1)
      have hR := combos_six i hi R (List.mem_of_getElem? h2)
      have hpm : p ∈ six := hP p (List.mem_filter.mp (List.mem_of_getLast? h3)).1
      have hrm : r ∈ six := hR r (List.mem_filter.mp (List.mem_of_getLast? h4)).1
      obtain ⟨x0, x1⟩ := placesF_get hp hpm
      obtain ⟨y0, y1⟩ := placesF_get hp hrm
      refine ⟨P.map (nmF os), R.map (nmF os), nmF os p, nmF os r, p, r, ?_, ?_, ?_, ?_, x0, y0, x1, y1, rfl⟩
      · rw [setsF_os hp, List.getElem?_map, h1]; rfl
      · rw [setsF_os hp, List.getElem?_map, h2]; rfl
      · rw [filter_nm hp hP hR, List.getLast?_map, h3]; rfl
      · rw [filter_nm hp hR hP, List.getLast?_map, h4]; rfl
    · cases h
  · cases h
end
end Kk
end

/-! ### P5 -/
section
open PySem
set_option maxRecDepth 100000
set_option maxHeartbeats 4000000
namespace Kk
noncomputable def colexK (i : Nat) : List (List Int) := (permK i).toList.map fun j => (combos i).getD j []
noncomputable def firstF (os : List Int) (pss : List (List Int)) (i : Nat) : List (List Int) := ((permK i).toList.map fun j => (setsF os i).getD j []).take (cntH os pss i)
noncomputable def lessP (P : List Int) (p : Int) : List Int := P.filter fun z => !([p] : List Int).contains z
theorem chk1 : ((List.range 7).all fun v => ((colexK 2).take (c2 v)).all fun P => P.all fun p => ((colexK 1).take v).contains (lessP P p)) = true := by decide +kernel
theorem chk2 : ((List.range 16).all fun e => ((colexK 3).take (kk3 e)).all fun P => P.all fun p => ((colexK 2).take e).contains (lessP P p)) = true := by decide +kernel
theorem permK_lt : ∀ i, i < 4 → 1 ≤ i → ∀ j ∈ (permK i).toList, j < (combos i).length := by decide +kernel
theorem colexK_six (i : Nat) (h : i < 4) : ∀ P ∈ colexK i, ∀ p ∈ P, p ∈ six := by
  intro P hP p hp
  obtain ⟨j, _, rfl⟩ := List.mem_map.mp hP
  by_cases hj : j < (combos i).length
  · refine combos_six i h _ ?_ p hp
    rw [List.getD_eq_getElem?_getD]
    simp [hj]
  · rw [List.getD_eq_getElem?_getD, List.getElem?_eq_none (by (clear h; omega))] at hp
    cases hp
theorem cntH_bounds {os : List Int} (h : os.length = 6) (pss : List (List Int)) : cntH os pss 2 ≤ c2 (cntH os pss 1) ∧ cntH os pss 3 ≤ kk3 (cntH os pss 2) := by
  obtain ⟨n0, n1, n2, n3, n4, n5, rfl⟩ := six_of h
  exact ⟨cnt21 .., cnt32 ..⟩
theorem take_mem {α : Type} {l : List α} {a : α} {m n : Nat} (h : a ∈ l.take m) (hmn : m ≤ n) : a ∈ l.take n := by
  have e : l.take m = (l.take n).take m := by rw [List.take_take, Nat.min_eq_left hmn]
  rw [e] at h
  exact List.mem_of_mem_take h
section
variable {os : List Int} (hp : os.Perm six)
include hp
theorem setsF_len6 (i : Nat) : (setsF os i).length = (combos i).length := by rw [setsF_os hp, List.length_map]
theorem cntH_le (pss : List (List Int)) (i : Nat) : cntH os pss i ≤ (combos i).length := by
  rw [← setsF_len6 hp i]; exact List.length_filter_le _ _
theorem firstF_eq (pss : List (List Int)) (i : Nat) (h : i < 4) (h1 : 1 ≤ i) : firstF os pss i = ((colexK i).take (cntH os pss i)).map (List.map (nmF os)) := by
  unfold firstF colexK
  rw [← List.map_take, ← List.map_take, List.map_map]
  refine List.map_congr_left fun j hj => ?_
  have hj' := permK_lt i h h1 j (List.mem_of_mem_take hj)
  rw [setsF_os hp]
  show ((combos i).map (List.map (nmF os))).getD j [] = ((combos i).getD j []).map (nmF os)
  rw [List.getD_eq_getElem?_getD, List.getD_eq_getElem?_getD, List.getElem?_map, List.getElem?_eq_getElem hj']
  rfl
theorem pl_in (pss : List (List Int)) (i : Nat) (h1 : 1 ≤ i) (h3 : i < 3) : ∀ one ∈ firstF os pss (i + 1), ∀ x ∈ one, (one.filter fun z => !([x] : List Int).contains z) ∈ firstF os pss i := by
  intro one ho x hx
  rw [firstF_eq hp pss (i + 1) (by (clear h1; omega)) (by (clear h3 h1; omega))] at ho
  rw [firstF_eq hp pss i (by (clear h1; omega)) h1]
  obtain ⟨P, hP, rfl⟩ := List.mem_map.mp ho
  obtain ⟨p, hpP, rfl⟩ := List.mem_map.mp hx
  have hP6 := colexK_six (i + 1) (by (clear h1; omega)) P (List.mem_of_mem_take hP)
  have hpm := hP6 p hpP
  have e := filter_nm hp (S := P) (R := [p]) hP6 (by intro q hq; rw [List.mem_singleton.mp hq]; exact hpm)
  rw [List.map_singleton] at e
  rw [e]
  refine List.mem_map_of_mem ?_
  have hb := cntH_bounds (os_len hp) pss
  have hc1 := cntH_le hp pss i
  have key : lessP P p ∈ (colexK i).take (cntH os pss i) := by
    match i, h1, h3 with
    | 1, _, _ =>
      have c := chk1
      rw [List.all_eq_true] at c
      have c := c (cntH os pss 1) (List.mem_range.mpr (by have : (combos 1).length = 6 := by decide
                                                          (clear hb h3 h1; omega)))
      rw [List.all_eq_true] at c
      have c := c P (take_mem hP hb.1)
      rw [List.all_eq_true] at c
      exact List.contains_iff_mem.mp (c p hpP)
    | 2, _, _ =>
      have c := chk2
      rw [List.all_eq_true] at c
      have c := c (cntH os pss 2) (List.mem_range.mpr (by have : (combos 2).length = 15 := by decide
                                                          (clear hb h3 h1; omega)))
      rw [List.all_eq_true] at c
      have c := c P (take_mem hP hb.2)
      rw [List.all_eq_true] at c
      exact List.contains_iff_mem.mp (c p hpP)
  exact key
end
theorem combos_len : ∀ i, i < 4 → 1 ≤ i → (combos i).length = (permK i).size ∧ 2 ≤ (combos i).length ∧ (combos i).length < 64 := by decide +kernel
theorem runs_i : ∀ i, i < 4 → 1 ≤ i → runK (ltK i) (PySem.W.kas_sort (combos i).length) = some (permK i)
  | 1, _, _ => by rw [show (combos 1).length = 6 by decide]; exact run1
  | 2, _, _ => by rw [show (combos 2).length = 15 by decide]; exact run2
  | 3, _, _ => by rw [show (combos 3).length = 20 by decide]; exact run3
end Kk
end

/-! ### W37a -/
section
open PySem PySem.W PySem.Calls PyProof.Rows PySem.Spec PySem.SeqAt Builtin
set_option maxRecDepth 100000
set_option maxHeartbeats 4000000
namespace Kk
section
variable {prog : Program} {w : World} {A : Around} {s : Shared} {env : Env}
theorem Chg.rfl' {a : Nat} {u : Shared} : Chg a u u := ⟨⟨rfl, fun _ _ => rfl⟩, rfl, rfl, rfl⟩
/-- y = [elt for x in iter if ifs], where the name is stored while the comprehension's own names still stand -/
theorem compAssign {elt iter : Expr} {x y : Str} {px py : Pos} {ifs : List Expr} {scope : Scope} {pos spos : Pos} {cl : List (Str × Addr)} {Q : Flow → Shared → Prop}
    (hsw : swapsWith (.ListComp elt [⟨.Name x px, iter, ifs, 0⟩] scope pos) (some (.Name y py)) spos.line env = pure true)
    (hclos : closureFor scope env = pure cl) (hcell : ∀ y ∈ scope.names, y.2 ≠ .cell) (hkind : scope.kind = .function)
    (hnames : ∀ y ∈ scope.names, y.2 = .local → scope.names.lookup y.1 = some .local)
    (h : Wp prog w A (eval iter env) (fun xv s₁ => Wp prog w A (pyIter xv) (fun it s₂ =>
      ∀ (a C : Nat) u, a = s₂.heap.objs.size → C = a + 1 → Kept s₂ u → u.heap.objs.size = C + 1 → u.heap.IsList a #[] → u.heap.Ns C (fun _ => none) →
      Wp prog w A (pyIter it) (fun it' u' => it' = it ∧ u' = u) u ∧
      codeAny (model prog w) A (.compLoop (.ListComp elt [⟨.Name x px, iter, ifs, 0⟩] scope pos) 0 it (.ref a) (compEnvC scope cl C env))
        (OkR fun _ u' => ∃ m, u'.heap.Ns C m ∧ ∀ z, Chg C u' z → (∀ m, z.heap.Ns (a + 1) m → Wp prog w A (storeName env y (.ref a)) (fun _ u'' => (∃ m', u''.heap.Ns (a + 1) m') ∧ ∀ z', Chg (a + 1) u'' z' → Q .next z') z)) u) s₁) s)
    (hs : ∀ y, foldedSetIterable iter env y = pure y := by intro _; rfl) : Wp prog w A (exec (.Assign [.Name y py] (.ListComp elt [⟨.Name x px, iter, ifs, 0⟩] scope pos) spos) env) Q s := by
  rw [exec_Assign_Name_used _ _ _ _ hsw]
  refine wpAny_bind (wpAny_standAt (wpAny_bind ?_))
  show Wp prog w A (do let _ ← comprehension (.ListComp elt [⟨.Name x px, iter, ifs, 0⟩] scope pos) scope env (firstIterPos [⟨.Name x px, iter, ifs, 0⟩] pos) (newList []) false (eval iter env) (some (assign (.Name y py) env))) _ s
  refine wpAny_bind (wpAny_mono (wpAny_comprehension_free (g := ⟨.Name x px, iter, ifs, 0⟩) (gs := []) (use := some (assign (.Name y py) env)) (Q := fun _ s' => Q .next s') rfl hs hclos hkind hnames ?_) (fun _ s' hq => wpAny_pure (wpAny_pure hq)) fun _ _ z => z)
  refine wpAny_mono h (fun xv s₁ h₁ => wpAny_mono h₁ (fun it s₂ h₂ => ?_) fun _ _ z => z) fun _ _ z => z
  refine rNewList (fun a u ha hk hz hl => ?_)
  refine wpAny_newFunctionEnv hcell (by intro y hy; simp at hy) (fun h₃ hns hsb => ?_) hkind
  rw [hz] at hns hsb ⊢
  have k2 : Kept u { u with heap := h₃, toks := u.toks + ([] : List (Str × Value)).length } := Kept.heap fun b o e =>
    hsb.extBut b o (Nat.ne_of_lt (Nat.lt_of_lt_of_le (Heap.lt_size e) (Nat.le_of_eq hz))) (Heap.get?_push_of_some _ e)
  have hz3 : h₃.objs.size = a + 1 + 1 := hsb.1.trans (by rw [Heap.size_push, hz])
  obtain ⟨g1, g2⟩ := h₂ a (a + 1) _ ha rfl (hk.trans k2) hz3 (k2.list hl) hns
  have fin : codeAny (model prog w) A (.compLoop (.ListComp elt [⟨.Name x px, iter, ifs, 0⟩] scope pos) 0 it (.ref a) (compEnvC scope cl (a + 1) env))
      (compPost (model prog w) A (fun _ _ => False) (some (assign (.Name y py) env)) (fun _ s' => Q .next s') (.ref a) (a + 1)) { u with heap := h₃, toks := u.toks + ([] : List (Str × Value)).length } := codeAny_mono g2 fun r s' hr => by
    cases r with
    | ok f =>
      obtain ⟨m, hn, hq⟩ := hr
      refine assign_Name (wpAny_mono (hq s' Chg.rfl' m hn) (fun _ s'' h'' => ?_) fun _ _ z => z)
      obtain ⟨⟨m', hn'⟩, hz'⟩ := h''
      exact ⟨m', hn', fun h' hs' => hz' _ ⟨hs', rfl, rfl, rfl⟩⟩
    | error e => exact hr.elim
  refine codeAny_compStart_list fin ?_
  refine Wp.anyMono g1 fun it' u' e => ?_
  obtain ⟨rfl, rfl⟩ := e
  exact fin
end
end Kk
end

/-! ### W38 -/
section
open PySem PySem.W PySem.Calls PyProof.Rows PySem.Spec PySem.SeqAt Builtin
set_option maxRecDepth 100000
set_option maxHeartbeats 4000000
namespace Kk
/-- no code, and no code's table -/
noncomputable def NotCode (h : Heap) (a : Nat) : Prop := ∀ ob vs, h.get? a = some ob → ob.data = .fields vs → ob.cls ≠ .none ∧ ob.cls ≠ .type "code" ∧ ∀ q t, vs[1]? ≠ some (.str q t)
theorem NotCode.ns {h : Heap} {a : Nat} {m : Str → Option Value} (x : h.Ns a m) : NotCode h a := fun ob vs e d => by
  obtain ⟨o, es, ep, e', d', _⟩ := x
  rw [e] at e'; cases e'; rw [d] at d'; cases d'
theorem NotCode.list {h : Heap} {a : Nat} {xs : Array Value} (x : h.IsList a xs) : NotCode h a := fun ob vs e d => by
  obtain ⟨o, e', _, n, d'⟩ := x
  rw [e] at e'; cases e'; rw [d] at d'; cases d'
theorem NotCode.iter {h : Heap} {a l i : Nat} (x : h.IsListIter a l i) : NotCode h a := fun ob vs e d => by
  obtain ⟨o, e', c, d'⟩ := x
  rw [e] at e'; cases e'; rw [d] at d'; cases d'
  rw [c]
  exact ⟨by decide, by decide, fun q t => by simp⟩
section
variable {H : Heap} {a : Nat} {t u : Shared}
theorem TabK.butN {c P : Nat} {ps : Array Value} (x : TabK t.heap c P ps) (b : But a t u) (n : NotCode t.heap a) : TabK u.heap c P ps := by
  refine ⟨codeHdBut (a := a) x.hd b.keep ?_, b.keep _ _ ?_ x.tab, x.ok⟩
  · rintro rfl
    obtain ⟨o, vs, _, _, _, _, _, _, _, e, e2, e3, _⟩ := x.hd
    exact (n o vs e e3).2.1 e2
  · rintro rfl
    exact (n _ _ x.tab rfl).1 rfl
theorem codeRecButN {c' : Nat} {q : Str} (x : t.heap.CodeRec (.ref c') q) (b : But a t u) (n : NotCode t.heap a) : u.heap.CodeRec (.ref c') q := by
  obtain ⟨c₂, o₂, vs₂, t₂, e₂, g₂, r₂, r₃⟩ := x
  cases e₂
  exact ⟨_, o₂, vs₂, t₂, rfl, b.keep _ _ (fun h => by subst h; exact (n _ _ g₂ r₂).2.2 _ _ r₃) g₂, r₂, r₃⟩
theorem Tabs.but (x : Tabs H t.heap) (b : But a t u) (n : NotCode t.heap a) : Tabs H u.heap := by
  obtain ⟨⟨ps, T, hh⟩, ⟨ps', T', hh'⟩⟩ := x
  refine ⟨⟨ps, T.butN b n, hh.imp id ?_⟩, ⟨ps', T'.butN b n, hh'.imp id ?_⟩⟩
  · rintro ⟨ck, pk, ps2, h1, h2, h3, h4, h5⟩
    exact ⟨ck, pk, ps2, h1, codeRecButN h2 b n, h3.butN b n, fun q hq => let ⟨c', e, r⟩ := h4 q hq; ⟨c', e, codeRecButN r b n⟩, h5⟩
  · rintro ⟨c', h1, h2, h3⟩
    exact ⟨c', h1, codeRecButN h2 b n, h3⟩
end
theorem ILp.but {P : Nat → Prop} {a : Nat} {t u : Shared} {v : Value} {ns : List Int} (x : ILp P t.heap v ns) (c : But a t u) (h : ∀ b xs, P b → t.heap.IsList b xs → b ≠ a) : ILp P u.heap v ns :=
  let ⟨b, vs, e, hp, l, i⟩ := x; ⟨b, vs, e, hp, c.list l (h b _ hp l), i⟩
theorem LLp.but {P : Nat → Prop} {a : Nat} {t u : Shared} {v : Value} {nss : List (List Int)} (x : LLp P t.heap v nss) (c : But a t u) (h : ∀ b xs, P b → t.heap.IsList b xs → b ≠ a) : LLp P u.heap v nss :=
  let ⟨b, vs, e, hp, l, i⟩ := x; ⟨b, vs, e, hp, c.list l (h b _ hp l), i.imp fun _ _ z => z.but c h⟩
theorem Ok.frs {H : Heap} {A : Around} {h h' : Heap} {k : Nat} (o : Ok H A h k) (hold : ∀ b ob, H.get? b = some ob → h'.get? b = some ob) (hf : ∀ b ob es ep, H.objs.size ≤ b → h.get? b = some ob → ob.data = .dict es ep → ∃ o' es' ep', h'.get? b = some o' ∧ o'.data = .dict es' ep') : Ok H A h' k := by
  refine ⟨hold, o.depth, o.units, o.handled, ?_⟩
  obtain ⟨l, hl, ne, f⟩ := o.frames
  refine ⟨l, hl, ne, fun env he => ?_⟩
  obtain ⟨hk, L, hfr, hL, ob, es, ep, ho, hd⟩ := f env he
  obtain ⟨o', es', ep', h1, h2⟩ := hf L ob es ep hL ho hd
  exact ⟨hk, L, hfr, hL, o', es', ep', h1, h2⟩
/-- a run of a comprehension, its name's store, its table's end -/
theorem Ok.comp {H : Heap} {A : Around} {k L C : Nat} {D : Addr → Prop} {m : Str → Option Value} {s t u v : Shared} (o : Ok H A s.heap k) (p : Past H.objs.size D s t) (nd : Dok H D) (c : Chg L t u) (hn : u.heap.Ns L m) (hL : H.objs.size ≤ L) (c' : Chg C u v) (hC : s.heap.objs.size ≤ C) : Ok H A v.heap k := by
  have ot := o.ext p.ext nd
  have ou := ot.chgNs c hL hn
  have hz := o.size
  refine o.frs (fun b ob e => (c'.same.2 b (Nat.ne_of_lt (Nat.lt_of_lt_of_le (Heap.lt_size e) (Nat.le_trans hz hC)))).trans (ou.old b ob e)) fun b ob es ep hbz e d => ?_
  have bC : b ≠ C := Nat.ne_of_lt (Nat.lt_of_lt_of_le (Heap.lt_size e) hC)
  have key : ∃ o' es' ep', u.heap.get? b = some o' ∧ o'.data = .dict es' ep' := by
    by_cases hb : b = L
    · subst hb
      obtain ⟨o', es', ep', e', d', _⟩ := hn
      exact ⟨o', es', ep', e', d'⟩
    · rcases p.ext b ob e (nd.2 b hbz) with e1 | ⟨_, _, sl, e1⟩
      · exact ⟨ob, es, ep, (c.same.2 b hb).trans e1, d⟩
      · exact ⟨_, es, ep, (c.same.2 b hb).trans e1, d⟩
  obtain ⟨o', es', ep', e', d'⟩ := key
  exact ⟨o', es', ep', (c'.same.2 b bC).trans e', d'⟩
noncomputable def lawStmts : List Stmt := match fdLaw.body with | .stmts l => l | _ => []
theorem All2.mem {α β : Type} {R : α → β → Prop} {l : List α} {l' : List β} (x : All2 R l l') {i : Nat} {b : β} (h : l'[i]? = some b) : ∃ a, l[i]? = some a ∧ R a b := by
  have hl := x.length
  have hi : i < l'.length := (List.getElem?_eq_some_iff.mp h).1
  obtain ⟨b', hb, hr⟩ := x.get (i := i) (a := l[i]) (by simp [hl, hi])
  rw [h] at hb; cases hb
  exact ⟨l[i], by simp [hl, hi], hr⟩
end Kk
end

/-! ### W38b -/
section
open PySem PySem.W PySem.Calls PyProof.Rows PySem.Spec PySem.SeqAt Builtin
set_option maxRecDepth 100000
set_option maxHeartbeats 4000000
namespace Kk
theorem Tabs.keepF {H : Heap} {t u : Shared} (x : Tabs H t.heap) (k : ∀ b o vs, t.heap.get? b = some o → o.data = .fields vs → (o.cls = .none ∨ o.cls = .type "code" ∨ ∃ q tk, vs[1]? = some (.str q tk)) → u.heap.get? b = some o) : Tabs H u.heap := by
  have kT : ∀ {c P : Nat} {ps : Array Value}, TabK t.heap c P ps → TabK u.heap c P ps := fun {c P ps} T => by
    refine ⟨?_, k _ _ _ T.tab rfl (.inl rfl), T.ok⟩
    obtain ⟨o, vs, file, tf, fl, tg, inF, tx, tt, e, e2, e3, r⟩ := T.hd
    exact ⟨o, vs, file, tf, fl, tg, inF, tx, tt, k _ _ _ e e3 (.inr (.inl e2)), e2, e3, r⟩
  have kC : ∀ {c' : Nat} {q : Str}, t.heap.CodeRec (.ref c') q → u.heap.CodeRec (.ref c') q := fun {c' q} h => by
    obtain ⟨c₂, o₂, vs₂, t₂, e₂, g₂, r₂, r₃⟩ := h
    cases e₂
    exact ⟨_, o₂, vs₂, t₂, rfl, k _ _ _ g₂ r₂ (.inr (.inr ⟨_, _, r₃⟩)), r₂, r₃⟩
  obtain ⟨⟨ps, T, hh⟩, ⟨ps', T', hh'⟩⟩ := x
  refine ⟨⟨ps, kT T, hh.imp id ?_⟩, ⟨ps', kT T', hh'.imp id ?_⟩⟩
  · rintro ⟨ck, pk, ps2, h1, h2, h3, h4, h5⟩
    exact ⟨ck, pk, ps2, h1, kC h2, kT h3, fun q hq => let ⟨c', e, r⟩ := h4 q hq; ⟨c', e, kC r⟩, h5⟩
  · rintro ⟨c', h1, h2, h3⟩
    exact ⟨c', h1, kC h2, h3⟩
theorem Tabs.extL {H : Heap} {L : Nat} {m : Str → Option Value} {t u : Shared} (x : Tabs H t.heap) (e : ExtL L t u) (hn : t.heap.Ns L m) : Tabs H u.heap :=
  x.keepF fun b o vs g d _ => e b o (by
    rintro rfl
    obtain ⟨o', es, ep, e', d', _⟩ := hn
    rw [g] at e'; cases e'; rw [d] at d'; cases d') g (by rw [d]; nofun)
theorem Tabs.buts {H : Heap} {wr : List Nat} {t u : Shared} (x : Tabs H t.heap) (c : Buts wr t u) (h : ∀ b ∈ wr, NotCode t.heap b) : Tabs H u.heap :=
  x.keepF fun b o vs g d hor => c.keep b o (fun hb => by
    obtain ⟨n1, n2, n3⟩ := h b hb o vs g d
    rcases hor with h | h | ⟨q, tk, h⟩
    · exact n1 h
    · exact n2 h
    · exact n3 q tk h) g
section
variable {z TI TO i1 i2 l1 l2 i : Nat} {xs ys : Array Value} {h : Heap}
theorem ZipSt.apart (x : ZipSt z TI TO i1 i2 l1 l2 xs ys i h) : ∀ b ∈ [z, TO, i1, i2], (∀ ws, ¬ h.IsList b ws) ∧ NotCode h b ∧ ∀ ob, h.get? b = some ob → ∀ es ep, ob.data ≠ .dict es ep := by
  obtain ⟨hz, hTI, ⟨a, c, hTO⟩, h1, h2, _, _⟩ := x
  intro b hb
  simp only [List.mem_cons, List.not_mem_nil, or_false] at hb
  rcases hb with rfl | rfl | rfl | rfl
  · refine ⟨fun ws ⟨o, e, c, _⟩ => ?_, fun ob vs e d => ?_, fun ob e es ep => ?_⟩
    · rw [hz] at e; cases e; exact absurd (show Value.type "zip" = Value.type "list" from c) (by decide)
    · rw [hz] at e; cases e; cases d
      exact ⟨show Value.type "zip" ≠ Value.none by decide, show Value.type "zip" ≠ Value.type "code" by decide, fun q t => by simp⟩
    · rw [hz] at e; cases e; nofun
  · refine ⟨fun ws ⟨o, e, c, _⟩ => ?_, fun ob vs e d => ?_, fun ob e es ep => ?_⟩
    · rw [hTO] at e; cases e; exact absurd (show Value.type "tuple" = Value.type "list" from c) (by decide)
    · rw [hTO] at e; cases e; cases d
    · rw [hTO] at e; cases e; nofun
  · refine ⟨fun ws l => list_ne_iter l h1 rfl, NotCode.iter h1, fun ob e es ep => ?_⟩
    obtain ⟨o, e', _, d⟩ := h1
    rw [e] at e'; cases e'; rw [d]; nofun
  · refine ⟨fun ws l => list_ne_iter l h2 rfl, NotCode.iter h2, fun ob e es ep => ?_⟩
    obtain ⟨o, e', _, d⟩ := h2
    rw [e] at e'; cases e'; rw [d]; nofun
theorem ZipSt.keepN {h' : Heap} (x : ZipSt z TI TO i1 i2 l1 l2 xs ys i h) (k : ∀ b o, h.get? b = some o → (∀ es ep, o.data ≠ .dict es ep) → h'.get? b = some o) : ZipSt z TI TO i1 i2 l1 l2 xs ys i h' := by
  obtain ⟨hz, hTI, ⟨a, c, hTO⟩, ⟨o1, e1, c1, d1⟩, ⟨o2, e2, c2, d2⟩, ⟨o3, e3, c3, n3, d3⟩, ⟨o4, e4, c4, n4, d4⟩⟩ := x
  exact ⟨k _ _ hz (by nofun), k _ _ hTI (by nofun), ⟨a, c, k _ _ hTO (by nofun)⟩, ⟨o1, k _ _ e1 (by rw [d1]; nofun), c1, d1⟩, ⟨o2, k _ _ e2 (by rw [d2]; nofun), c2, d2⟩,
    ⟨o3, k _ _ e3 (by rw [d3]; nofun), c3, n3, d3⟩, ⟨o4, k _ _ e4 (by rw [d4]; nofun), c4, n4, d4⟩⟩
end
theorem nd_ne {h : Heap} {L b : Nat} {m : Str → Option Value} {o : Obj} (hn : h.Ns L m) (e : h.get? b = some o) (d : ∀ es ep, o.data ≠ .dict es ep) : b ≠ L := by
  rintro rfl
  obtain ⟨o', es, ep, e', d', _⟩ := hn
  rw [e] at e'; cases e'; exact d _ _ d'
theorem LLo.keepN {lo : Nat} {h h' : Heap} {v : Value} {nss : List (List Int)} (x : LLo lo h v nss) (k : ∀ b o, h.get? b = some o → (∀ es ep, o.data ≠ .dict es ep) → h'.get? b = some o) : LLo lo h' v nss := by
  have kl : ∀ {a : Nat} {xs : Array Value}, h.IsList a xs → h'.IsList a xs := fun ⟨o, e, c, n, d⟩ => ⟨o, k _ _ e (by rw [d]; nofun), c, n, d⟩
  obtain ⟨a, vs, q, l, i, r⟩ := x
  exact ⟨a, vs, q, l, kl i, r.imp fun _ _ ⟨a', vs', q', l', i', r'⟩ => ⟨a', vs', q', l', kl i', r'⟩⟩
end Kk
end

/-! ### W39 -/
section
open PySem PySem.W PySem.Calls PyProof.Rows PySem.Spec PySem.SeqAt Builtin
set_option maxRecDepth 100000
set_option maxHeartbeats 4000000
namespace Kk
theorem Rows.all2 {R : Nat → Value → Prop} {S : Value → List Int → Prop} {G : Nat → List Int} : ∀ {l : List Nat} {ys : List Value}, Rows R l ys → (∀ j ∈ l, ∀ y, R j y → S y (G j)) → All2 S ys (l.map G)
  | _, _, .nil, _ => .nil
  | _, _, .cons r rs, h => .cons (h _ (.head _) _ r) (rs.all2 fun j hj => h j (.tail _ hj))
theorem Rows.all3 {R : Nat → Value → Prop} {S : Value → List (List Int) → Prop} {G : Nat → List (List Int)} : ∀ {l : List Nat} {ys : List Value}, Rows R l ys → (∀ j ∈ l, ∀ y, R j y → S y (G j)) → All2 S ys (l.map G)
  | _, _, .nil, _ => .nil
  | _, _, .cons r rs, h => .cons (h _ (.head _) _ r) (rs.all3 fun j hj => h j (.tail _ hj))
theorem firstF_el {os : List Int} (h : os.length = 6) (pss : List (List Int)) (i : Nat) : ∀ one ∈ firstF os pss i, one.length ≤ 1000 := by
  intro one ho
  obtain ⟨j, _, rfl⟩ := List.mem_map.mp (List.mem_of_mem_take ho)
  by_cases hj : j < (setsF os i).length
  · have := setsF_el os i ((setsF os i).getD j []) (by rw [List.getD_eq_getElem?_getD]; simp [hj])
    (clear hj; omega)
  · rw [List.getD_eq_getElem?_getD, List.getElem?_eq_none (by (clear h; omega))]
    exact Nat.zero_le _
theorem range_getD {α β : Type} (l : List α) (d : α) (f : α → β) : (List.range l.length).map (fun j => f (l.getD j d)) = l.map f := by
  apply List.ext_getElem
  · simp
  · intro i h1 h2
    simp at h1 h2
    simp [h1]
section
variable {prog : Program} {w : World} {H : Heap} {mg mb : Str → Option Value} {A : Around} {s s₀ : Shared} {k : Nat} {m : Str → Option Value}
theorem law5 (B : Base w H mg mb) (hz93 : 93 < H.objs.size) {L fa fo : Nat} {cd : Value} {fvs : List Value} {F1 F2 F3 : List (List Int)} {Q : Flow → Shared → Prop} (ok : Ok H A s.heap (k + 22)) (T : Tabs H s.heap) (p0 : Past H.objs.size D0 s₀ s) (hL : s₀.heap.objs.size ≤ L) (hz0 : H.objs.size ≤ s₀.heap.objs.size)
    (hns : s.heap.Ns L m) (mfo : m "first_ones" = some (.ref fo)) (lf : s.heap.IsList fo fvs.toArray) (fi : All2 (LLo H.objs.size s.heap) fvs [F1, F2, F3])
    (h21 : ∀ one ∈ F2, ∀ x ∈ one, (one.filter fun z => !([x] : List Int).contains z) ∈ F1) (h32 : ∀ one ∈ F3, ∀ x ∈ one, (one.filter fun z => !([x] : List Int).contains z) ∈ F2) (hel2 : ∀ one ∈ F2, one.length ≤ 1000) (hel3 : ∀ one ∈ F3, one.length ≤ 1000)
    (hQ : ∀ u m', Past H.objs.size D0 s₀ u → Tabs H u.heap → u.heap.Ns L m' → Ok H A u.heap (k + 22) → Q (.ret (.bool true)) u) : Wp prog w A (execs (lawStmts.drop 5) (lawEnv L fa cd)) Q s := by
  have Ll := ns_lt hns
  have hz := ok.size
  obtain ⟨f1, f2, f3, rfl, g1, g2, g3⟩ : ∃ f1 f2 f3, fvs = [f1, f2, f3] ∧ LLo H.objs.size s.heap f1 F1 ∧ LLo H.objs.size s.heap f2 F2 ∧ LLo H.objs.size s.heap f3 F3 := by
    cases fi with
    | cons h0 r => cases r with
      | cons h1 r => cases r with
        | cons h2 r => cases r with
          | nil => exact ⟨_, _, _, rfl, h0, h1, h2⟩
  show Wp prog w A (execs (_ :: _) _) _ _
  refine execs_cons (forStmt (cType B ok rfl PyProof.Rows.Boot.«zip» rfl rfl (sCons (eLocal hns mfo (sCons (rSlice (eLocal hns mfo (evalPart_some_step (rConstInt fun t1 u1 k1 e1 => evalPart_none_step ?_)))))))))
  refine ⟨fo, _, some (1 : Nat), none, rfl, k1.list lf, by simp, .int _ _, .none, fun l2 u2 hl2 k2 z2 ll2 => sNil ?_⟩
  rw [slicePick_from _ _ (by simp)] at ll2
  have k12 := k1.trans k2
  have z1 : u1.heap.objs.size = s.heap.objs.size := by rw [e1]
  have fol : (fo : Nat) < s.heap.objs.size := isList_lt lf
  refine call_zip_2 (k12.list lf) ll2 fun h' hz' hTI hTO hi1 hi2 hsz hk => ?_
  have k3 : Kept u2 { u2 with heap := h' } := ⟨hk, rfl, rfl, rfl⟩
  have St0 : ZipSt (u2.heap.objs.size + 4) (u2.heap.objs.size + 2) (u2.heap.objs.size + 3) u2.heap.objs.size (u2.heap.objs.size + 1) fo l2 #[f1, f2, f3] #[f2, f3] 0 h' :=
    ⟨hz', hTI, ⟨_, _, hTO⟩, hi1, hi2, k3.list (k12.list lf), k3.list ll2⟩
  have k13 := k12.trans k3
  generalize hu3 : ({ u2 with heap := h' } : Shared) = u3 at k3 k13 ⊢
  have hh3 : h' = u3.heap := by rw [← hu3]
  rw [hh3] at St0
  generalize hN : u2.heap.objs.size = N at St0 ⊢
  have hsN : s.heap.objs.size ≤ N := by (clear hsz fol hz Ll hz0 hL hz93; omega)
  refine wpAny_pyIter_zip St0.1 ?_
  have wr : ∀ b ∈ [N + 4, N + 3, N, N + 1], s.heap.objs.size ≤ b := fun b hb => by
    simp only [List.mem_cons, List.not_mem_nil, or_false] at hb
    rcases hb with rfl | rfl | rfl | rfl <;> (clear hsN hsz fol hz Ll hz0 hL hz93; omega)
  have Lwr : L ∉ [N + 4, N + 3, N, N + 1] := fun h => by have := wr L h; (clear hsN hN hsz fol z1 z2 hl2 hz hz0 hL hz93; omega)
  have Dz : ZipApart (N + 4) (N + 2) (N + 3) N (N + 1) fo l2 := zipApart_new (show (fo : Nat) < N by (clear Lwr hsN hsz hz Ll hz0 hL hz93; omega)) (show (l2 : Nat) < N by (clear Lwr hsN hsz fol z1 hl2 hz Ll hz0 hL hz93; omega))
  refine forZip Dz (fun i t => Past H.objs.size D0 s₀ t ∧ Tabs H t.heap ∧ Ok H A t.heap (k + 22) ∧ (∃ m', t.heap.Ns L m') ∧ ZipSt (N + 4) (N + 2) (N + 3) N (N + 1) fo l2 #[f1, f2, f3] #[f2, f3] i t.heap ∧
      LLo H.objs.size t.heap f1 F1 ∧ LLo H.objs.size t.heap f2 F2 ∧ LLo H.objs.size t.heap f3 F3) ok.handled (fun i t h => h.2.2.2.2.1) (fun i vx vy t u hx hy ht bu st => ?_) (fun t u ht bu => ?_) ?_
  · obtain ⟨q0, T0, o0, ⟨m0, n0⟩, st0, x1, x2, x3⟩ := ht
    have ap := st0.apart
    have q1 : Past H.objs.size D0 s₀ u := q0.buts bu fun b hb => by have := wr b hb; (clear Lwr hsN hN hsz fol z1 z2 hl2 hz hz0 hz93; omega)
    have T1 : Tabs H u.heap := T0.buts bu fun b hb => (ap b hb).2.1
    have o1 : Ok H A u.heap (k + 22) := o0.buts bu (fun b hb => by have := wr b hb; (clear Lwr hsN hN hsz fol z1 z2 hl2 hz hz93; omega)) fun b hb => (ap b hb).2.2
    have n1 := bu.ns n0 Lwr
    have y1 := x1.buts bu fun b hb => (ap b hb).1
    have y2 := x2.buts bu fun b hb => (ap b hb).1
    have y3 := x3.buts bu fun b hb => (ap b hb).1
    refine rStoreLoc (L := L) n1 (fun u4 c4 n4 => ?_) rfl rfl rfl
    refine rStoreLoc (L := L) n4 (fun u5 c5 n5 => ?_) rfl rfl rfl
    have k5 : ∀ b o, u.heap.get? b = some o → (∀ es ep, o.data ≠ .dict es ep) → u5.heap.get? b = some o := fun b o e d =>
      have ne := nd_ne n1 e d
      (c5.same.2 b ne).trans ((c4.same.2 b ne).trans e)
    have q5 := (q1.chg c4 hL).chg c5 hL
    have o5 := (o1.chgNs c4 (by (clear Lwr hsN hN hsz fol z1 z2 hl2 hz Ll hz93; omega)) n4).chgNs c5 (by (clear Lwr hsN hN hsz fol z1 z2 hl2 hz Ll hz93; omega)) n5
    have T5 : Tabs H u5.heap := T1.keepF fun b o vs g d _ => k5 b o g (by rw [d]; nofun)
    have w1 := y1.keepN k5
    have w2 := y2.keepN k5
    have w3 := y3.keepN k5
    have st5 := st.keepN k5
    have go : ∀ (Q' : Flow → Shared → Prop) (bv hv : Value) (bss hss : List (List Int)), vx = bv → vy = hv → LLo H.objs.size u5.heap bv bss → LLo H.objs.size u5.heap hv hss → (∀ one ∈ hss, ∀ x ∈ one, (one.filter fun z => !([x] : List Int).contains z) ∈ bss) → (∀ one ∈ hss, one.length ≤ 1000) →
        Wp prog w A (execs lawBody (lawEnv L fa cd)) (Turn Q' fun t => Past H.objs.size D0 s₀ t ∧ Tabs H t.heap ∧ Ok H A t.heap (k + 22) ∧ (∃ m', t.heap.Ns L m') ∧ ZipSt (N + 4) (N + 2) (N + 3) N (N + 1) fo l2 #[f1, f2, f3] #[f2, f3] (i + 1) t.heap ∧
          LLo H.objs.size t.heap f1 F1 ∧ LLo H.objs.size t.heap f2 F2 ∧ LLo H.objs.size t.heap f3 F3) u5 := by
      rintro Q' _ _ bss hss rfl rfl ⟨bl, bvs, rfl, _, lb, ab⟩ ⟨hr, hvs, rfl, _, lh, ah⟩ hin hel
      refine here_spec (k := k + 12) B o5 q5 hL hz0 n5 rfl rfl lb ab lh ah hin hel fun u6 m6 q6 x6 o6 n6 _ => ?_
      have k6 : ∀ b o, u5.heap.get? b = some o → (∀ es ep, o.data ≠ .dict es ep) → u6.heap.get? b = some o := fun b o e d => x6 b o (nd_ne n5 e d) e d
      exact ⟨q6, T5.extL x6 n5, o6, ⟨m6, n6⟩, st5.keepN k6, w1.keepN k6, w2.keepN k6, w3.keepN k6⟩
    match i, hx, hy with
    | 0, hx, hy => exact go _ f1 f2 F1 F2 (by simpa using hx.symm) (by simpa using hy.symm) w1 w2 h21 hel2
    | 1, hx, hy => exact go _ f2 f3 F2 F3 (by simpa using hx.symm) (by simpa using hy.symm) w2 w3 h32 hel3
    | i + 2, hx, hy => simp at hy
  · obtain ⟨q0, T0, o0, ⟨m0, n0⟩, st0, _⟩ := ht
    have ap := st0.apart
    refine execs_cons (wpAny_Return_some (wpAny_Constant_bool ?_))
    exact hQ u m0 (q0.buts bu fun b hb => by have := wr b hb; (clear Lwr hsN hN hsz fol z1 z2 hl2 hz hz0 hz93; omega)) (T0.buts bu fun b hb => (ap b hb).2.1) (bu.ns n0 Lwr) (o0.buts bu (fun b hb => by have := wr b hb; (clear Lwr hsN hN hsz fol z1 z2 hl2 hz hz93; omega)) fun b hb => (ap b hb).2.2)
  · exact ⟨p0.kept k13, T.ext (n₀ := 0) k13.ext, ok.kept k13, ⟨m, k13.ns hns⟩, St0, g1.keepN fun b o e _ => k13.keep b o e, g2.keepN fun b o e _ => k13.keep b o e, g3.keepN fun b o e _ => k13.keep b o e⟩
theorem law4 (B : Base w H mg mb) (hz93 : 93 < H.objs.size) {L fa b pl sz sa : Nat} {cd : Value} {zvs pvs qs svs : List Value} {os ps : List Int} {Q : Flow → Shared → Prop} (ok : Ok H A s.heap (k + 22)) (T : Tabs H s₀.heap) (p0 : Past H.objs.size Dn s₀ s) (hL : s₀.heap.objs.size ≤ L) (hz0 : H.objs.size ≤ s₀.heap.objs.size)
    (hns : s.heap.Ns L m) (msz : m "sizes" = some (.ref sz)) (d2 : s.heap.IsCell (L + 2) (some (.ref b))) (d3 : s.heap.IsCell (L + 3) (some (.ref pl))) (d4 : s.heap.IsCell (L + 4) (some (.ref sa)))
    (lz : s.heap.IsList sz zvs.toArray) (zi : All2 (LLo H.objs.size s.heap) zvs [setsF os 1, setsF os 2, setsF os 3]) (ls : s.heap.IsList sa svs.toArray) (si : All2 (ILo H.objs.size s.heap) svs (setsF os 1 ++ setsF os 2 ++ setsF os 3)) (hol : os.length = 6) (op : os.Perm [0, 1, 2, 3, 4, 5]) (lb : s.heap.IsList b pvs.toArray) (pi : IntsAre pvs ps) (pr : ∀ p ∈ ps, 0 ≤ p ∧ p < 41) (pz : ps.length ≤ 65)
    (hsz : H.objs.size ≤ sz) (hbz : H.objs.size ≤ b) (hsa : H.objs.size ≤ sa)
    (lp : s.heap.IsList pl qs.toArray) (qi : IntsAre qs (placesF os)) (hpl : H.objs.size ≤ pl)
    (hQ : ∀ u m', Past H.objs.size D0 s₀ u → Tabs H u.heap → u.heap.Ns L m' → Ok H A u.heap (k + 22) → Q (.ret (.bool true)) u) : Wp prog w A (execs (lawStmts.drop 4) (lawEnv L fa cd)) Q s := by
  have Ll := ns_lt hns
  have hz := ok.size
  have c4z := isCell_lt d4
  have zl : zvs.length = 3 := zi.length
  generalize hall : setsF os 1 ++ setsF os 2 ++ setsF os 3 = all at si
  have all41 : all.length = 41 := by
    rw [← hall, List.length_append, List.length_append, setsF_len6 op 1, setsF_len6 op 2, setsF_len6 op 3]
    decide
  have sv41 : svs.length = 41 := by rw [si.length, all41]
  generalize hpss : (ps.map fun p => all.getD p.toNat []) = pss
  have nD : ∀ b, H.objs.size ≤ b → ¬ D0 b := fun b hb d => by rcases d with rfl | rfl <;> (clear sv41 all41 zl c4z hz Ll hpl hsa hbz hsz pz hol hz0 hL; omega)
  show Wp prog w A (execs (_ :: _) _) _ _
  refine execs_cons (compAssign (cl := [("sets", L + 4), ("places", L + 3), ("picked", L + 2)]) (by rfl) (by kernel_rfl) (by decide) rfl (by decide) ?_)
  refine eLocal hns msz ?_
  refine rIterList lz fun it u1 hit k1 z1 i1 => ?_
  have szl : (sz : Nat) < s.heap.objs.size := isList_lt lz
  refine compBody (itList (Nat.ne_of_gt (by (clear z1 sv41 all41 zl c4z hz Ll hpl hsa hbz hsz pz hol hz0 hL hz93; omega)))) (Tabs H) (fun _ => true) (fun j y h => LLp (fun a => H.objs.size ≤ a ∧ a ≠ u1.heap.objs.size) h y (firstF os pss (j + 1))) (n₀ := H.objs.size) (D := D0) (s₁ := s) ok.handled (by rw [List.size_toArray, zl]; decide)
      nD hz (by (clear szl z1 sv41 all41 zl c4z hz Ll hpl hsa hbz hsz pz hol hz0 hL hz93; omega)) ?_ k1.past ⟨i1, k1.list lz⟩ ((T.ext p0.ext).ext (n₀ := 0) k1.ext) (fun t u h k => h.ext (n₀ := 0) k.ext) (fun a' t u h c hor => ?_) (fun j y t u h p => h.ext p.ext fun b hb => nD b hb.1) (fun j y t u a' h c ha hor => ?_) ?_ ?_
      (fun C j v t mm hj hv p jT hC nC hmx => ?_) (fun C j v t mm hj hv hp2 p jT hC nC hmx => ?_) (fun u9 ys p9 T9 l9 r9 => ?_)
  · intro b hb
    simp only [List.mem_cons, List.not_mem_nil, or_false] at hb
    rcases hb with rfl | rfl <;> (clear z1 szl sv41 all41 zl c4z hz hpl hsa hbz pz hol hz93; omega)
  · refine h.but c ?_
    rcases hor with ⟨m', hm⟩ | ⟨rfl, i, st⟩ | ⟨xs, hl⟩
    · exact NotCode.ns hm
    · exact NotCode.iter st.1
    · exact NotCode.list hl
  · refine h.but c fun b' xs hP hl => ?_
    rcases hor with ⟨m', hm⟩ | ⟨rfl, i, st⟩ | ⟨rfl, xs', hl'⟩
    · exact list_ne_ns hl hm
    · exact list_ne_iter hl st.1
    · exact hP.2
  · rfl
  · rfl
  · exact testsNil ⟨rfl, Past.refl, jT⟩
  · have okt : Ok H A t.heap (k + 22) := ok.ext p.ext (B.dok hz93)
    have zi' := zi
    refine cFn B okt rfl (fd := fdFirst) rfl rfl rfl (sCons (eLocal nC hmx (sCons ?_)))
    refine compList (cl := [("sets", L + 4)]) (by kernel_rfl) (by decide) rfl (by decide) ?_
    refine eCell (p.ext.cell d2 (nD _ (by (clear hC hj szl z1 hit sv41 all41 zl c4z hz Ll hpl hsa hbz hsz pz hol hz93; omega)))) ?_
    have lbt := p.ext.list lb (nD _ hbz)
    refine rIterList lbt fun jt u2 hjt k2 z2 j2 => ?_
    have blt : (b : Nat) < t.heap.objs.size := isList_lt lbt
    have hzt := okt.size
    have pvl : pvs.length = ps.length := pi.length
    refine compBody (Q := fun a z => Wp prog w A (spliced [(false, _)]) (fun vs u => _) z) (itList (Nat.ne_of_gt (by (clear pvl hzt z2 hC hj szl z1 hit sv41 all41 zl c4z hz Ll hpl hsa hbz hsz pz hol hz0 hL hz93; omega)))) (fun _ => True) (fun _ => true) (fun j y _ => svs[(ps.getD j 0).toNat]? = some y) (n₀ := H.objs.size) (D := Dn) (s₁ := t) ok.handled (by rw [List.size_toArray]; (clear hzt blt z2 hjt hC hj szl z1 hit sv41 all41 zl c4z hz Ll hpl hsa hbz hsz hol hz0 hL hz93; omega))
      (fun _ _ f => f) hzt (by (clear pvl hzt blt z2 hC hj szl z1 hit sv41 all41 zl c4z hz Ll hpl hsa hbz hsz pz hol hz0 hL hz93; omega)) ?_ k2.past ⟨j2, k2.list lbt⟩ trivial (fun _ _ _ _ => trivial) (fun _ _ _ _ _ _ => trivial) (fun _ _ _ _ h _ => h) (fun _ _ _ _ _ h _ _ _ => h) ?_ ?_
      (fun C' j' v' t' mm' hj' hv' p' _ hC' nC' hmx' => ?_) (fun C' j' v' t' mm' hj' hv' hp2' p' _ hC' nC' hmx' => ?_) (fun u4 ys p4 _ l4 r4 => ?_)
    · intro b' hb
      simp only [List.mem_cons, List.not_mem_nil, or_false] at hb
      rcases hb with rfl | rfl <;> (clear z2 pvl hzt hC hj szl z1 hit sv41 all41 zl c4z hz Ll hpl hsa hsz pz hol hz0 hL hz93; omega)
    · rfl
    · rfl
    · exact testsNil ⟨rfl, Past.refl, trivial⟩
    · obtain ⟨x, tx, rfl, hx⟩ := ints_get pi (by simpa using hv')
      obtain ⟨x0, x1⟩ := pr x (List.mem_of_getElem? hx)
      have gx : ps.getD j' 0 = x := by rw [List.getD_eq_getElem?_getD, hx]; rfl
      obtain ⟨y, hy⟩ : ∃ y, svs[x.toNat]? = some y := ⟨svs[x.toNat], by simp⟩
      have p0' := p.trans p'.weak0
      refine Subscript_ (eCell (p0'.ext.cell d4 (nD _ (by (clear gx x1 x0 hC' hj' pvl hzt blt z2 hjt hC hj szl z1 hit sv41 all41 zl c4z hz Ll hpl hsa hbz hsz pz hol hz93; omega)))) (eLocal nC' hmx' ?_))
      refine rItem (p0'.ext.list ls (nD _ hsa)) x0 (by (clear gx x0 hC' hj' pvl hzt blt z2 hjt hC hj szl z1 hit sv41 all41 zl c4z hz Ll hpl hsa hbz hsz pz hol hz0 hL hz93; omega)) (v := y) (by simpa using hy) ⟨Past.refl, trivial, by rw [gx]; exact hy⟩
    · refine sElem (eCell ((p.trans p4.weak0).ext.cell d3 (nD _ (by (clear pvl hzt blt z2 hjt hC hj szl z1 hit sv41 all41 zl c4z hz Ll hpl hsa hbz hsz pz hol hz93; omega)))) (sNil ?_))
      have ok4 := okt.past p4
      have T4 := jT.ext p4.ext
      have pp4 : Past H.objs.size D0 s u4 := p.trans p4.weak0
      refine ⟨⟨_, ok4⟩, ?_⟩
      have hj3 : j < 3 := by rw [List.size_toArray, zl] at hj; exact hj
      have C4 : (C : Nat) < u4.heap.objs.size := ns_lt (p4.ns nC)
      have hv3 : zvs[j]? = some v := by simpa using hv
      obtain ⟨nssj, e1, a1, v1, rfl, hlo1, l1, r1⟩ := zi.get hv3
      have en : nssj = setsF os (j + 1) := by
        match j, hj3, e1 with
        | 0, _, e1 => cases e1; rfl
        | 1, _, e1 => cases e1; rfl
        | 2, _, e1 => cases e1; rfl
      subst en
      have lt1 : ∀ {b' : Nat} {xs : Array Value}, s.heap.IsList b' xs → b' ≠ u1.heap.objs.size := fun h => Nat.ne_of_lt (by have := isList_lt h; (clear hlo1 C4 hj3 pvl hzt blt z2 hjt hC hj szl sv41 all41 zl c4z hz Ll hpl hsa hbz hsz pz hol hz0 hL hz93; omega))
      have h1 : LLp (fun a => H.objs.size ≤ a ∧ a ≠ u1.heap.objs.size) u4.heap (.ref a1) (setsF os (j + 1)) :=
        LLp.ext ⟨a1, v1, rfl, ⟨hlo1, lt1 l1⟩, l1, r1.imp fun _ _ ⟨a', vs', e, h, l, i⟩ => ⟨a', vs', e, ⟨h, lt1 l⟩, l, i⟩⟩ pp4.ext fun b hb => nD b hb.1
      have si4 : All2 (ILo H.objs.size u4.heap) svs all := si.imp fun _ _ z => z.extD pp4.ext nD
      have h2 : LLo H.objs.size u4.heap (.ref u2.heap.objs.size) pss := by
        rw [List.filter_eq_self.mpr (fun _ _ => rfl)] at r4
        refine ⟨_, ys, rfl, by (clear hlo1 C4 hj3 pvl hzt hC hj szl z1 hit sv41 all41 zl c4z hz Ll hpl hsa hsz pz hol hz0 hL hz93; omega), l4, ?_⟩
        have := r4.all2 (S := ILo H.objs.size u4.heap) (G := fun j => all.getD (ps.getD j 0).toNat []) fun j' hj' y hy => by
          obtain ⟨ns, hn, hi⟩ := si4.get hy
          rw [List.getD_eq_getElem?_getD, hn]
          exact hi
        have e0 : pvs.toArray.size = ps.length := by rw [List.size_toArray, pvl]
        rw [e0] at this
        rw [← hpss, ← range_getD ps 0 fun p => all.getD p.toNat []]
        exact this
      have cl := combos_len (j + 1) (by (clear hlo1 C4 pvl hzt blt z2 hjt hC hj szl z1 hit sv41 all41 zl c4z hz Ll hpl hsa hbz hsz pz hol hz0 hL hz93; omega)) (by (clear hlo1 C4 hj3 pvl hzt blt z2 hjt hC hj szl z1 hit sv41 all41 zl c4z hz Ll hpl hsa hbz hsz pz hol hz0 hL hz93; omega))
      have sl := setsF_len6 op (j + 1)
      refine first_spec (k := k + 2) B hz93 (lt := ltK (j + 1)) (perm := permK (j + 1)) ok4 T4 (fun a h => h.1) (fun a h => ⟨by have := ok4.size; (clear this sl cl hlo1 hj3 pvl hzt blt z2 hjt hj szl sv41 all41 zl c4z hz hpl hsa hbz hsz pz hol hz93; omega), Nat.ne_of_gt (by (clear sl cl hlo1 hj3 pvl hzt blt z2 hjt hj szl z1 hit sv41 all41 zl c4z hz Ll hpl hsa hbz hsz pz hol hz0 hL hz93; omega))⟩) h1 h2 (pp4.ext.list lp (nD _ hpl)) hpl qi (by rw [placesF_len]; decide) (by (clear hlo1 C4 hj3 pvl hzt blt z2 hjt hC hj szl z1 hit sv41 all41 zl c4z hz Ll hpl hsa hbz hsz pz hol hz0 hL hz93; omega)) (by (clear hlo1 C4 hj3 pvl hzt blt z2 hjt hC hj szl z1 hit sv41 all41 zl c4z hz Ll hpl hsa hbz hsz pz hol hz0 hL hz93; omega))
        (fun ns hn => by have := setsF_el os (j + 1) ns hn; (clear sl cl hlo1 C4 hj3 pvl hzt blt z2 hjt hC hj szl z1 hit sv41 all41 zl c4z hz Ll hpl hsa hbz hsz pz hz0 hL hz93; omega)) (fun i' j' b' h => pl_lt op (by (clear sl cl hlo1 C4 pvl hzt blt z2 hjt hC hj szl z1 hit sv41 all41 zl c4z hz Ll hpl hsa hbz hsz pz hol hz0 hL hz93; omega)) i' j' b' h) (by rw [sl]; exact runs_i (j + 1) (by (clear sl cl hlo1 C4 pvl hzt blt z2 hjt hC hj szl z1 hit sv41 all41 zl c4z hz Ll hpl hsa hbz hsz pz hol hz0 hL hz93; omega)) (by (clear sl cl hlo1 C4 hj3 pvl hzt blt z2 hjt hC hj szl z1 hit sv41 all41 zl c4z hz Ll hpl hsa hbz hsz pz hol hz0 hL hz93; omega))) (fun i hi => by rw [sl]; exact permK_lt (j + 1) (by (clear sl cl hlo1 C4 pvl hzt blt z2 hjt hC hj szl z1 hit sv41 all41 zl c4z hz Ll hpl hsa hbz hsz pz hol hz0 hL hz93; omega)) (by (clear sl cl hlo1 C4 hj3 pvl hzt blt z2 hjt hC hj szl z1 hit sv41 all41 zl c4z hz Ll hpl hsa hbz hsz pz hol hz0 hL hz93; omega)) i hi) (by rw [sl]; exact cl.1.symm) fun u5 r p5 T5 l5 => ?_
      exact ⟨p4.weak0.trans p5, T5, l5⟩
  · rw [List.filter_eq_self.mpr (fun _ _ => rfl)] at r9
    intro mC hC
    have nsL : u9.heap.Ns L m := p9.ext.ns hns (nD L (by (clear szl z1 hit sv41 all41 zl c4z hz Ll hpl hsa hbz hsz pz hol hz93; omega)))
    refine rStoreLoc (L := L) nsL (fun u10 c10 n10 => ?_) rfl rfl rfl
    have nC := c10.ns hC (Nat.ne_of_gt (by (clear szl sv41 all41 zl c4z hz hpl hsa hbz hsz pz hol hz0 hL hz93; omega)))
    refine ⟨⟨mC, nC⟩, fun u11 c11 => ?_⟩
    have hCs : s.heap.objs.size ≤ u1.heap.objs.size + 1 := by (clear szl sv41 all41 zl c4z hz Ll hpl hsa hbz hsz pz hol hz0 hL hz93; omega)
    have p11 : Past H.objs.size D0 s₀ u11 := (((p0.weak0.trans p9)).chg c10 (by (clear hCs szl z1 hit sv41 all41 zl c4z hz Ll hpl hsa hbz hsz pz hol hz0 hz93; omega))).chg c11 (by have := p0; (clear hCs szl sv41 all41 zl c4z hz hpl hsa hbz hsz pz hol hz0 hz93; omega))
    have ok11 : Ok H A u11.heap (k + 22) := ok.comp p9 (B.dok hz93) c10 n10 (by (clear hCs szl z1 hit sv41 all41 zl c4z hz Ll hpl hsa hbz hsz pz hol hz93; omega)) c11 hCs
    have b10 : But L u9 u10 := ⟨fun b o ne e => (c10.same.2 b ne).trans e, c10.gens, c10.drawn, c10.os⟩
    have b11 : But (u1.heap.objs.size + 1) u10 u11 := ⟨fun b o ne e => (c11.same.2 b ne).trans e, c11.gens, c11.drawn, c11.os⟩
    have T11 : Tabs H u11.heap := (T9.but b10 (NotCode.ns nsL)).but b11 (NotCode.ns nC)
    have n11 := c11.ns n10 (Nat.ne_of_lt (by (clear hCs szl sv41 all41 zl c4z hz hpl hsa hbz hsz pz hol hz0 hL hz93; omega)))
    have keep : ∀ {b' : Nat} {xs : Array Value}, u9.heap.IsList b' xs → u11.heap.IsList b' xs := fun h => c11.list (c10.list h (list_ne_ns h nsL)) (list_ne_ns (c10.list h (list_ne_ns h nsL)) nC)
    have kilo : ∀ v ns, ILo H.objs.size u9.heap v ns → ILo H.objs.size u11.heap v ns := fun v ns ⟨a', vs', e, hlo, hl, hi⟩ => ⟨a', vs', e, hlo, keep hl, hi⟩
    have r11 : All2 (LLo H.objs.size u11.heap) ys [firstF os pss 1, firstF os pss 2, firstF os pss 3] := by
      have e0 : zvs.toArray.size = 3 := by rw [List.size_toArray, zl]
      rw [e0] at r9
      have r' := r9.all3 (S := LLo H.objs.size u9.heap) (G := fun j => firstF os pss (j + 1)) fun j _ y h => LLp.lo h fun a h => h.1
      exact r'.imp fun v nss ⟨a', vs', e, hlo, hl, hi⟩ => ⟨a', vs', e, hlo, keep hl, hi.imp kilo⟩
    refine law5 B hz93 ok11 T11 p11 hL hz0 n11 rfl (keep l9) r11 (pl_in op pss 1 (by decide) (by decide)) (pl_in op pss 2 (by decide) (by decide)) (fun one h => ?_) (fun one h => ?_) hQ
    · exact firstF_el hol pss 2 one h
    · exact firstF_el hol pss 3 one h
end
end Kk
end

/-! ### W37 -/
section
open PySem PySem.W PySem.Calls PyProof.Rows PySem.Spec PySem.SeqAt Builtin
set_option maxRecDepth 100000
set_option maxHeartbeats 4000000
namespace Kk
theorem rows_map {g : Nat → Int} : ∀ {l : List Nat} {ys : List Value}, Rows (fun j y => ∃ t, y = .int (g j) t) l ys → IntsAre ys (l.map g)
  | _, _, .nil => .nil
  | _, _, .cons ⟨t, e⟩ r => by subst e; exact .cons _ t (rows_map r)
theorem All2.append {α β : Type} {R : α → β → Prop} : ∀ {l : List α} {l' : List β} {k : List α} {k' : List β}, All2 R l l' → All2 R k k' → All2 R (l ++ k) (l' ++ k')
  | _, _, _, _, .nil, h => h
  | _, _, _, _, .cons a b, h => .cons a (b.append h)
section
variable {prog : Program} {w : World} {H : Heap} {mg mb : Str → Option Value} {A : Around} {s s₀ : Shared} {k : Nat} {m : Str → Option Value}
theorem rIndexX {l : Nat} {vs : List Value} {ns : List Int} {i : Int} {t : Tok} {Q : Value → Shared → Prop} (hl : XL s.heap l vs.toArray) (hi : IntsAre vs ns) (hin : i ∈ ns) (hz : vs.length ≤ 1000)
    (h : ∀ t u, Kept s u → u.heap = s.heap → Q (.int (ns.findIdx fun z => z == i : Nat) t) u) : Wp prog w A (call (.builtin "list.index") [.ref l, .int i t]) Q s := by
  obtain ⟨n, ho⟩ := id hl
  have he : ∀ {vs : List Value} {ns : List Int}, IntsAre vs ns → vs.findIdx (isInt i) = ns.findIdx fun z => z == i := by
    intro vs ns hi
    induction hi with
    | nil => rfl
    | cons n t _ ih => rw [List.findIdx_cons, List.findIdx_cons, ih]; rfl
  have ha : vs.any (isInt i) = true := (any_isInt i hi).trans (List.any_eq_true.mpr ⟨i, hin, by simp⟩)
  have hj : vs.findIdx (isInt i) < vs.length := List.findIdx_lt_length_of_exists (by simpa using ha)
  refine call_meets PySem.F.slot_list_index hl.list.typeIs PySem.F.entry_list_index (PySem.F.args_list_index_2 _ _)
    (MeetsSeq.list_index l vs.toArray n (.int i t) (isInt i) (fun y hy => eq_isInt i t hi y (by simpa using hy)) (vs.findIdx (isInt i)) (by simpa using hj) (by omega) (by simpa using List.findIdx_getElem (w := hj)) (fun m hm hlt => by simpa using List.not_of_lt_findIdx hlt)) ⟨ho, ?_⟩
  rw [he hi]
  exact h s.toks _ (Kept.tok _) rfl
theorem law3 (B : Base w H mg mb) (hz93 : 93 < H.objs.size) {L fa b pl sz : Nat} {cd : Value} {zvs pvs qs : List Value} {os ps : List Int} {Q : Flow → Shared → Prop} (ok : Ok H A s.heap (k + 22)) (T : Tabs H s₀.heap) (p0 : Past H.objs.size Dn s₀ s) (hL : s₀.heap.objs.size ≤ L) (hz0 : H.objs.size ≤ s₀.heap.objs.size)
    (hns : s.heap.Ns L m) (msz : m "sizes" = some (.ref sz)) (d2 : s.heap.IsCell (L + 2) (some (.ref b))) (d3 : s.heap.IsCell (L + 3) (some (.ref pl))) (d4 : s.heap.IsCell (L + 4) none)
    (lz : s.heap.IsList sz zvs.toArray) (zi : All2 (LLo H.objs.size s.heap) zvs [setsF os 1, setsF os 2, setsF os 3]) (hol : os.length = 6) (op : os.Perm [0, 1, 2, 3, 4, 5]) (lb : s.heap.IsList b pvs.toArray) (pi : IntsAre pvs ps) (pr : ∀ p ∈ ps, 0 ≤ p ∧ p < 41) (pz : ps.length ≤ 65) (hsz : H.objs.size ≤ sz) (hbz : H.objs.size ≤ b)
    (lp : s.heap.IsList pl qs.toArray) (qi : IntsAre qs (placesF os)) (hpl : H.objs.size ≤ pl)
    (hQ : ∀ u m', Past H.objs.size D0 s₀ u → Tabs H u.heap → u.heap.Ns L m' → Ok H A u.heap (k + 22) → Q (.ret (.bool true)) u) : Wp prog w A (execs (lawStmts.drop 3) (lawEnv L fa cd)) Q s := by
  have Ll := ns_lt hns
  obtain ⟨z0, z1, z2, rfl, ⟨a0, v0, rfl, hlo0, l0, r0⟩, ⟨a1, v1, rfl, hlo1, l1, r1⟩, ⟨a2, v2, rfl, hlo2, l2, r2⟩⟩ : ∃ z0 z1 z2, zvs = [z0, z1, z2] ∧ LLo H.objs.size s.heap z0 (setsF os 1) ∧ LLo H.objs.size s.heap z1 (setsF os 2) ∧ LLo H.objs.size s.heap z2 (setsF os 3) := by
    cases zi with
    | cons h0 r => cases r with
      | cons h1 r => cases r with
        | cons h2 r => cases r with
          | nil => exact ⟨_, _, _, rfl, h0, h1, h2⟩
  have y0 : v0.length ≤ 64 := by rw [r0.length]; exact Nat.le_trans (setsF_len os 1) (by rw [hol]; decide)
  have y1 : v1.length ≤ 64 := by rw [r1.length]; exact Nat.le_trans (setsF_len os 2) (by rw [hol]; decide)
  have y2 : v2.length ≤ 64 := by rw [r2.length]; exact Nat.le_trans (setsF_len os 3) (by rw [hol]; decide)
  show Wp prog w A (execs (_ :: _) _) _ _
  refine execs_cons (wpAny_Assign_Name (wpAny_BinOp (wpAny_BinOp (Subscript_ (eLocal hns msz (rConstInt fun t1 u1 k1 e1 => ?_))))))
  refine rItem (k1.list lz) (by decide) (by decide) (v := .ref a0) rfl ?_
  refine Subscript_ (eLocal (k1.ns hns) msz (rConstInt fun t2 u2 k2 e2 => ?_))
  have k12 := k1.trans k2
  refine rItem (k12.list lz) (by decide) (by decide) (v := .ref a1) rfl ?_
  refine rAddLists (k12.list l0) (k12.list l1) (fun a3 u3 h3 k3 z3 l3 => ?_) (by rw [List.size_toArray, List.size_toArray]; (clear y2 hlo2 hlo1 hlo0 Ll hpl hbz hsz pz hol hz0 hL hz93; omega))
  have k13 := k12.trans k3
  refine Subscript_ (eLocal (k13.ns hns) msz (rConstInt fun t4 u4 k4 e4 => ?_))
  have k14 := k13.trans k4
  refine rItem (k14.list lz) (by decide) (by decide) (v := .ref a2) rfl ?_
  refine rAddLists (k4.list l3) (k14.list l2) (fun a5 u5 h5 k5 z5 l5 => ?_) (by rw [Array.size_append, List.size_toArray, List.size_toArray, List.size_toArray]; (clear z3 h3 hlo2 hlo1 hlo0 Ll hpl hbz hsz pz hol hz0 hL hz93; omega))
  have k15 := k14.trans k5
  have c4z := isCell_lt d4
  refine rStoreCell (k15.cell d4) fun u6 c6 g6 => ?_
  have hz := ok.size
  have z14 : u4.heap.objs.size = u3.heap.objs.size := by rw [e4]
  have z12 : u2.heap.objs.size = s.heap.objs.size := by rw [e2, e1]
  have keep : ∀ {b' : Nat} {xs : Array Value}, s.heap.IsList b' xs → u6.heap.IsList b' xs := fun {b' xs} h => c6.list (k15.list h) (by
    rintro rfl
    obtain ⟨o1, e1, _, n, d⟩ := h
    obtain ⟨o2, e2, d2⟩ := d4
    rw [e1] at e2; cases e2; rw [d] at d2; cases d2)
  have kilo : ∀ v ns, ILo H.objs.size s.heap v ns → ILo H.objs.size u6.heap v ns := fun v ns ⟨a', vs', e, hlo, hl, hi⟩ => ⟨a', vs', e, hlo, keep hl, hi⟩
  have l6 : u6.heap.IsList a5 (v0 ++ v1 ++ v2).toArray := by
    have := c6.list l5 (Nat.ne_of_gt (by (clear hz z5 y2 y1 y0 hlo2 hlo1 hlo0 Ll hpl hbz hsz pz hol hz0 hL hz93; omega)))
    simpa using this
  exact law4 B hz93 ((ok.kept k15).chgCell c6 (by (clear z12 z14 hz c4z z5 h5 z3 h3 y2 y1 y0 hlo2 hlo1 hlo0 Ll hpl hbz hsz pz hol hz93; omega)) (k15.cell d4)) T ((p0.kept k15).chg c6 (by (clear z12 z14 hz c4z z5 h5 z3 h3 y2 y1 y0 hlo2 hlo1 hlo0 Ll hpl hbz hsz pz hol hz0 hz93; omega))) hL hz0 (c6.ns (k15.ns hns) (Nat.ne_of_lt (by (clear z12 z14 hz c4z z5 h5 z3 h3 y2 y1 y0 hlo2 hlo1 hlo0 Ll hpl hbz hsz pz hol hz0 hL hz93; omega)))) msz (c6.cell (k15.cell d2) (Nat.ne_of_lt (by (clear z12 z14 hz c4z z5 h5 z3 h3 y2 y1 y0 hlo2 hlo1 hlo0 Ll hpl hbz hsz pz hol hz0 hL hz93; omega)))) (c6.cell (k15.cell d3) (Nat.ne_of_lt (by (clear z12 z14 hz c4z z5 h5 z3 h3 y2 y1 y0 hlo2 hlo1 hlo0 Ll hpl hbz hsz pz hol hz0 hL hz93; omega)))) g6
    (keep lz) (.cons ⟨a0, v0, rfl, hlo0, keep l0, r0.imp kilo⟩ (.cons ⟨a1, v1, rfl, hlo1, keep l1, r1.imp kilo⟩ (.cons ⟨a2, v2, rfl, hlo2, keep l2, r2.imp kilo⟩ .nil))) l6 (((r0.imp kilo).append (r1.imp kilo)).append (r2.imp kilo)) hol op (keep lb) pi pr pz hsz hbz (show H.objs.size ≤ a5 by (clear hz c4z z5 y2 y1 y0 hlo2 hlo1 hlo0 hpl hbz hsz pz hol hz93; omega)) (keep lp) qi hpl hQ
theorem law2 (B : Base w H mg mb) (hz93 : 93 < H.objs.size) {L fa a b pl : Nat} {cd : Value} {ovs pvs qs : List Value} {os ps : List Int} {Q : Flow → Shared → Prop} (ok : Ok H A s.heap (k + 22)) (T : Tabs H s₀.heap) (p0 : Past H.objs.size Dn s₀ s) (hL : s₀.heap.objs.size ≤ L) (hz0 : H.objs.size ≤ s₀.heap.objs.size)
    (hns : s.heap.Ns L m) (d1 : s.heap.IsCell (L + 1) (some (.ref a))) (d2 : s.heap.IsCell (L + 2) (some (.ref b))) (d3 : s.heap.IsCell (L + 3) (some (.ref pl))) (d4 : s.heap.IsCell (L + 4) none)
    (la : s.heap.IsList a ovs.toArray) (oi : IntsAre ovs os) (op : os.Perm [0, 1, 2, 3, 4, 5]) (lb : s.heap.IsList b pvs.toArray) (pi : IntsAre pvs ps) (pr : ∀ p ∈ ps, 0 ≤ p ∧ p < 41) (pz : ps.length ≤ 65) (hbz : H.objs.size ≤ b)
    (lp : s.heap.IsList pl qs.toArray) (qi : IntsAre qs (placesF os)) (hpl : H.objs.size ≤ pl)
    (hQ : ∀ u m', Past H.objs.size D0 s₀ u → Tabs H u.heap → u.heap.Ns L m' → Ok H A u.heap (k + 22) → Q (.ret (.bool true)) u) : Wp prog w A (execs (lawStmts.drop 2) (lawEnv L fa cd)) Q s := by
  have Ll := ns_lt hns
  have hol : os.length = 6 := op.length_eq
  show Wp prog w A (execs (_ :: _) _) _ _
  refine execs_cons (compAssign (cl := [("order", L + 1)]) (by rfl) (by kernel_rfl) (by decide) rfl (by decide) ?_)
  refine cType B ok rfl PyProof.Rows.Boot.«range» rfl rfl ?_
  refine sConstInt fun t1 u6 k6 e6 => sConstInt fun t2 u6' k6' e6' => sNil (rRange2 fun r u7 hr k7 z7 r7 => ?_)
  refine rIterRange r7 (by decide) (by decide) (by decide) fun it u8 hit k8 z8 i8 => ?_
  have k58 := ((k6.trans k6').trans k7).trans k8
  have z56 : u6'.heap.objs.size = s.heap.objs.size := by rw [e6', e6]
  have i8' : IsRangeIter u8.heap it (1 + ((0 : Nat) : Int)) (((3 : Nat) : Int) - ((0 : Nat) : Int)) 1 := i8
  refine compBody (itRange (n := 3) (a := 1)) (fun _ => True) (fun _ => true) (fun j y h => LLo (u8.heap.objs.size + 1) h y (setsF os (j + 1))) (n₀ := H.objs.size) (D := Dn) (s₁ := s) ok.handled (by decide)
      (fun _ _ f => f) ok.size (by (clear z8 hol Ll hpl hbz pz hz0 hL hz93; omega)) ?_ k58.past i8' trivial (fun _ _ _ _ => trivial) (fun _ _ _ _ _ _ => trivial) (fun j y t u h p => h.past p) (fun j y t u a' h c ha hor => ?_) ?_ ?_
      (fun C j v t mm hj hv p _ hC nC hmx => ?_) (fun C j v t mm hj hv hp2 p _ hC nC hmx => ?_) (fun u9 ys p9 _ l9 r9 => ?_)
  · intro b hb
    simp only [List.mem_cons, List.not_mem_nil, or_false] at hb
    have := ok.size
    (clear this z8 hol hpl hbz pz hz93; omega)
  · have ne : ∀ b' xs, t.heap.IsList b' xs → u8.heap.objs.size + 1 ≤ b' → b' ≠ a' := fun b' xs hl hlo => by
      rcases hor with ⟨m', hm⟩ | ⟨rfl, i, st⟩ | ⟨rfl, xs', hl'⟩
      · exact list_ne_ns hl hm
      · exact Nat.ne_of_gt (by (clear hit ha z56 z7 hr hol Ll hpl hbz pz hz0 hL hz93; omega))
      · exact Nat.ne_of_gt (by (clear ha z56 z8 hit z7 hr hol Ll hpl hbz pz hz0 hL hz93; omega))
    obtain ⟨b', vs', e, hlo, hl, hr⟩ := h
    refine ⟨b', vs', e, hlo, c.list hl (ne b' _ hl hlo), ?_⟩
    exact hr.imp fun _ _ z => z.but c ne
  · rfl
  · rfl
  · exact testsNil ⟨rfl, Past.refl, trivial⟩
  · obtain ⟨tv, rfl⟩ := hv
    have okt := ok.past p
    have e0 : (1 : Int) + (j : Int) = ((j + 1 : Nat) : Int) := by (clear hC hj z56 z8 hit z7 hr hol Ll hpl hbz pz hz0 hL hz93; omega)
    rw [e0] at hmx
    refine cFn B okt rfl (fd := fdSets) rfl rfl rfl (sCons (eCell (p.cell d1) (sCons (eLocal nC hmx (sNil ⟨⟨_, okt⟩, ?_⟩)))))
    refine sets_spec B (j + 1) (okt.less (by (clear e0 hC z56 z8 hit z7 hr hol Ll hpl hbz pz hz0 hL hz93; omega))) ⟨a, _, rfl, p.list la, oi⟩ (by (clear e0 hC hj z56 z8 hit z7 hr Ll hpl hbz pz hz0 hL hz93; omega)) fun u r p' l' => ⟨p', trivial, l'.low ?_⟩
    have := ns_lt nC
    (clear e0 hj z56 z8 hit z7 hr hol Ll hpl hbz pz hz0 hL hz93; omega)
  · rw [List.filter_eq_self.mpr (fun _ _ => rfl)] at r9
    intro mC hC
    have al := ns_lt hC
    have z58 : s.heap.objs.size ≤ u8.heap.objs.size := by (clear al hol Ll hpl hbz pz hz0 hL hz93; omega)
    refine rStoreLoc (L := L) (p9.ns hns) (fun u10 c10 n10 => ?_) rfl rfl rfl
    refine ⟨⟨mC, c10.ns hC (Nat.ne_of_gt (by (clear z58 al hol hpl hbz pz hz0 hL hz93; omega)))⟩, fun u11 c11 => ?_⟩
    have p11 := ((p0.trans p9).chg c10 (by (clear z58 al z56 z8 hit z7 hr hol Ll hpl hbz pz hz0 hz93; omega))).chg c11 (by (clear z58 al hol hpl hbz pz hz0 hz93; omega))
    have ok9 := ok.past p9
    have nC := c10.ns hC (Nat.ne_of_gt (by (clear z58 al hol hpl hbz pz hz0 hL hz93; omega)))
    have nsL := p9.ns hns
    have n11 := c11.ns n10 (Nat.ne_of_lt (by (clear z58 al hol hpl hbz pz hz0 hL hz93; omega)))
    have ok11 : Ok H A u11.heap (k + 22) := ok.comp p9 Dok.nil c10 n10 (by (clear z58 al z56 z8 hit z7 hr hol Ll hpl hbz pz hz93; omega)) c11 (by (clear z58 al hol Ll hpl hbz pz hz0 hL hz93; omega))
    have lz9 := c10.list l9 (list_ne_ns l9 nsL)
    have lz := c11.list lz9 (list_ne_ns lz9 nC)
    have keep : ∀ {b' : Nat} {xs : Array Value}, u9.heap.IsList b' xs → u11.heap.IsList b' xs := fun h => c11.list (c10.list h (list_ne_ns h nsL)) (list_ne_ns (c10.list h (list_ne_ns h nsL)) nC)
    have kcell : ∀ {b' : Nat} {v : Option Value}, L < b' → b' < L + 5 → s.heap.IsCell b' v → u11.heap.IsCell b' v := fun h1 h2 h => c11.cell (c10.cell (p9.cell h) (Nat.ne_of_gt h1)) (Nat.ne_of_lt (by have := isCell_lt h; (clear h2 h1 z58 al hol Ll hpl hbz pz hz0 hL hz93; omega)))
    have kilo : ∀ v ns, ILo H.objs.size u9.heap v ns → ILo H.objs.size u11.heap v ns := fun v ns ⟨a', vs', e, hlo, hl, hi⟩ => ⟨a', vs', e, hlo, keep hl, hi⟩
    have r11 : All2 (LLo H.objs.size u11.heap) ys [setsF os 1, setsF os 2, setsF os 3] := by
      have r' : All2 (LLo H.objs.size u9.heap) ys ((List.range 3).map fun j => setsF os (j + 1)) := by
        clear lz lz9 l9
        revert r9
        generalize List.range 3 = l
        intro r9
        induction r9 with
        | nil => exact .nil
        | cons h _ ih => exact .cons (LLo.low h (by have := ok.size; (clear this z58 al hol hpl hbz pz hz93; omega))) ih
      exact r'.imp fun v nss ⟨a', vs', e, hlo, hl, hi⟩ => ⟨a', vs', e, hlo, keep hl, hi.imp kilo⟩
    refine law3 B hz93 ok11 T p11 hL hz0 n11 rfl (kcell (by (clear z58 al z56 z8 hit z7 hr hol Ll hpl hbz pz hz0 hL hz93; omega)) (by (clear z58 al z56 z8 hit z7 hr hol Ll hpl hbz pz hz0 hL hz93; omega)) d2) (kcell (by (clear z58 al z56 z8 hit z7 hr hol Ll hpl hbz pz hz0 hL hz93; omega)) (by (clear z58 al z56 z8 hit z7 hr hol Ll hpl hbz pz hz0 hL hz93; omega)) d3) (kcell (by (clear z58 al z56 z8 hit z7 hr hol Ll hpl hbz pz hz0 hL hz93; omega)) (by (clear z58 al z56 z8 hit z7 hr hol Ll hpl hbz pz hz0 hL hz93; omega)) d4) lz r11 hol op (keep (p9.list lb)) pi pr pz (by have := ok.size; (clear this z58 al hol hpl hbz pz hz93; omega)) hbz (keep (p9.list lp)) qi hpl hQ
theorem law_body (B : Base w H mg mb) (hz93 : 93 < H.objs.size) {L fa sc : Nat} {cd : Value} {vs : List Value} {ns : List Int} {Q : Flow → Shared → Prop} (ok : Ok H A s.heap (k + 22)) (T : Tabs H s₀.heap) (p0 : Past H.objs.size Dn s₀ s) (hL : s₀.heap.objs.size ≤ L) (hz0 : H.objs.size ≤ s₀.heap.objs.size)
    (hns : s.heap.Ns L m) (ms : m "script" = some (.ref sc)) (hs : s.heap.IsList sc vs.toArray) (hi : IntsAre vs ns) (hlen : ns.length ≤ 1000)
    (hc1 : s.heap.IsCell (L + 1) none) (hc2 : s.heap.IsCell (L + 2) none) (hc3 : s.heap.IsCell (L + 3) none) (hc4 : s.heap.IsCell (L + 4) none)
    (hQ : ∀ u m', Past H.objs.size D0 s₀ u → Tabs H u.heap → u.heap.Ns L m' → Ok H A u.heap (k + 22) → Q (.ret (.bool true)) u) : Wp prog w A (execs lawStmts (lawEnv L fa cd)) Q s := by
  have Ll := ns_lt hns
  have n1 := isCell_lt hc4
  show Wp prog w A (execs (_ :: _) _) _ _
  refine execs_cons (Assign_Tuple (cFn B ok rfl (fd := fdDrawn) rfl rfl rfl (sCons (eLocal hns ms (sNil ⟨⟨_, ok⟩, ?_⟩)))))
  refine drawn_spec B (k := k + 20) ok hs hi hlen fun tp a b u1 os ps ovs pvs ha hb p1 la oi op lb pi pr pz gt => ?_
  have ok1 := ok.past p1
  show Wp prog w A (do standAt _; unpack (.ref tp) (assignEach _ _)) _ _
  refine wpAny_bind (wpAny_standAt ?_)
  unfold unpack
  refine wpAny_bind (wpAny_holding (unpackItems_tuple (items := #[.ref a, .ref b]) ok.handled ⟨_, gt, rfl, _, rfl⟩ fun h3 hx3 => ?_))
  have k3 : Kept u1 { u1 with heap := h3 } := ⟨fun b o e => hx3 b o (Nat.ne_of_lt (Heap.lt_size e)) e, rfl, rfl, rfl⟩
  generalize ({ u1 with heap := h3 } : Shared) = u3 at k3 ⊢
  have q3 := p1.kept k3
  refine wpAny_bind (wpAny_holding (assign_Name (rStoreCell (q3.cell hc1) fun u4 c4 g4 => ?_)))
  refine wpAny_bind (wpAny_holding (assign_Name (rStoreCell (c4.cell (q3.cell hc2) (Nat.ne_of_gt (Nat.lt_succ_self _))) fun u5 c5 g5 => ?_)))
  refine wpAny_pure ?_
  have p5 := (((p0.trans q3).chg c4 (by (clear pz hb ha n1 Ll hlen hz0 hz93; omega))).chg c5 (by (clear pz hb ha n1 Ll hlen hz0 hz93; omega)))
  have ok5 := ((ok.past q3).chgCell c4 (by (clear pz hb ha n1 Ll hlen hz93; omega)) (q3.cell hc1)).chgCell c5 (by (clear pz hb ha n1 Ll hlen hz93; omega)) (c4.cell (q3.cell hc2) (Nat.ne_of_gt (Nat.lt_succ_self _)))
  have la5 := ((la.kept k3).chg c4 (Nat.ne_of_gt (by (clear pz hb Ll hlen hz0 hL hz93; omega)))).chg c5 (Nat.ne_of_gt (by (clear pz hb Ll hlen hz0 hL hz93; omega)))
  have lb5 := ((lb.kept k3).chg c4 (Nat.ne_of_gt (by (clear pz ha Ll hlen hz0 hL hz93; omega)))).chg c5 (Nat.ne_of_gt (by (clear pz ha Ll hlen hz0 hL hz93; omega)))
  have d1 : u5.heap.IsCell (L + 1) (some (.ref a)) := c5.cell g4 (Nat.ne_of_lt (Nat.lt_succ_self _))
  have d2 : u5.heap.IsCell (L + 2) (some (.ref b)) := g5
  have d3 : u5.heap.IsCell (L + 3) none := c5.cell (c4.cell (q3.cell hc3) (Nat.ne_of_gt (by (clear pz hb ha n1 Ll hlen hz0 hL hz93; omega)))) (Nat.ne_of_gt (by (clear pz hb ha n1 Ll hlen hz0 hL hz93; omega)))
  have d4 : u5.heap.IsCell (L + 4) none := c5.cell (c4.cell (q3.cell hc4) (Nat.ne_of_gt (by (clear pz hb ha n1 Ll hlen hz0 hL hz93; omega)))) (Nat.ne_of_gt (by (clear pz hb ha n1 Ll hlen hz0 hL hz93; omega)))
  have n5 := c5.ns (c4.ns (q3.ns hns) (Nat.ne_of_lt (by (clear pz hb ha n1 Ll hlen hz0 hL hz93; omega)))) (Nat.ne_of_lt (by (clear pz hb ha n1 Ll hlen hz0 hL hz93; omega)))
  have T5 : Tabs H u5.heap := T.ext p5.ext
  clear hc1 hc2 hc3 hc4 hns c4 c5 g4 g5 q3 k3 la lb
  have hol : os.length = 6 := op.length_eq
  have ovl := oi.length
  -- places
  refine execs_cons (wpAny_Assign_Name ?_)
  refine compList (cl := [("order", L + 1)]) (by kernel_rfl) (by decide) rfl (by decide) ?_
  refine cType B ok5 rfl PyProof.Rows.Boot.«range» rfl rfl ?_
  refine sConstInt fun t1 u6 k6 e6 => sNil (rRange1 fun r u7 hr k7 z7 r7 => ?_)
  refine rIterRange r7 (by decide) (by decide) (by decide) fun it u8 hit k8 z8 i8 => ?_
  have k58 := (k6.trans k7).trans k8
  have z56 : u6.heap.objs.size = u5.heap.objs.size := by rw [e6]
  refine compBody (itRange (n := 6) (a := 0)) (fun _ => True) (fun _ => true) (fun j y _ => ∃ t, y = .int (os.findIdx (fun z => z == (j : Int)) : Nat) t) (n₀ := H.objs.size) (D := Dn) (s₁ := u5) ok5.handled (by decide)
      (fun _ _ f => f) ok5.size (by (clear z8 ovl hol pz hb ha n1 Ll hlen hz0 hL hz93; omega)) ?_ k58.past (by simpa using i8) trivial (fun _ _ _ _ => trivial) (fun _ _ _ _ _ _ => trivial) (fun _ _ _ _ h _ => h) (fun _ _ _ _ _ h _ _ _ => h) ?_ ?_
      (fun C j v t mm hj hv p _ hC nC hmx => ?_) (fun C j v t mm hj hv hp2 p _ hC nC hmx => ?_) (fun u9 ys p9 _ l9 r9 => ?_)
  · intro b hb
    simp only [List.mem_cons, List.not_mem_nil, or_false] at hb
    have := ok5.size
    (clear z8 ovl hol pz ha n1 Ll hlen hz0 hL hz93; omega)
  · rfl
  · rfl
  · exact testsNil ⟨rfl, Past.refl, trivial⟩
  · obtain ⟨tv, rfl⟩ := hv
    refine cMethod PySem.F.slot_list_index PySem.F.type_list_index rfl rfl rfl (eCell (p.cell d1) ⟨a, _, rfl, (la5.past p).pl, ?_⟩)
    refine eLocal nC hmx ?_
    have e0 : (0 : Int) + (j : Int) = (j : Int) := by (clear hC hj z56 z8 hit z7 hr ovl hol pz hb ha n1 Ll hlen hz0 hL hz93; omega)
    rw [e0]
    refine rIndexX (la5.past p) oi (op.mem_iff.mpr (by
      have : j = 0 ∨ j = 1 ∨ j = 2 ∨ j = 3 ∨ j = 4 ∨ j = 5 := by (clear e0 hC z56 z8 hit z7 hr ovl hol pz hb ha n1 Ll hlen hz0 hL hz93; omega)
      rcases this with rfl | rfl | rfl | rfl | rfl | rfl <;> decide)) (by (clear e0 hC hj z56 z8 hit z7 hr pz hb ha n1 Ll hlen hz0 hL hz93; omega)) fun t u k e => ⟨k.past, trivial, t, rfl⟩
  · rw [List.filter_eq_self.mpr (fun _ _ => rfl)] at r9
    have pi9 : IntsAre ys (placesF os) := rows_map r9
    have ok9 := ok5.past p9
    have d3' := p9.cell d3
    have n9 := p9.ns n5
    refine rStoreCell d3' fun u10 c10 g10 => ?_
    have z8' : u5.heap.objs.size ≤ u8.heap.objs.size := by (clear ovl hol pz hb ha n1 Ll hlen hz0 hL hz93; omega)
    have e1 : L + 4 < u5.heap.objs.size := isCell_lt d4
    have al := la5.lt
    have bl := lb5.lt
    refine law2 B hz93 (ok9.chgCell c10 (by (clear bl al e1 z8' z56 z8 hit z7 hr ovl hol pz hb ha n1 Ll hlen hz93; omega)) d3') T ((p5.trans p9).chg c10 (by (clear bl al e1 z8' z56 z8 hit z7 hr ovl hol pz hb ha n1 Ll hlen hz0 hz93; omega))) hL hz0 (c10.ns n9 (Nat.ne_of_lt (by (clear bl al e1 z8' z56 z8 hit z7 hr ovl hol pz hb ha n1 Ll hlen hz0 hL hz93; omega)))) (c10.cell (p9.cell d1) (Nat.ne_of_lt (by (clear bl al e1 z8' z56 z8 hit z7 hr ovl hol pz hb ha n1 Ll hlen hz0 hL hz93; omega)))) (c10.cell (p9.cell d2) (Nat.ne_of_lt (by (clear bl al e1 z8' z56 z8 hit z7 hr ovl hol pz hb ha n1 Ll hlen hz0 hL hz93; omega)))) g10 (c10.cell (p9.cell d4) (Nat.ne_of_gt (by (clear bl al e1 z8' z56 z8 hit z7 hr ovl hol pz hb ha n1 Ll hlen hz0 hL hz93; omega))))
      (c10.list (p9.list la5.list) (Nat.ne_of_gt (by (clear bl al e1 z8' z56 z8 hit z7 hr ovl hol pz hb Ll hlen hz0 hL hz93; omega)))) oi op (c10.list (p9.list lb5.list) (Nat.ne_of_gt (by (clear bl al e1 z8' z56 z8 hit z7 hr ovl hol pz ha Ll hlen hz0 hL hz93; omega)))) pi pr pz (by (clear bl al e1 z8' z56 z8 hit z7 hr ovl hol pz ha n1 hlen hz93; omega)) (c10.list l9 (Nat.ne_of_gt (by (clear bl al z8' ovl hol pz hb ha n1 Ll hlen hz0 hL hz93; omega)))) pi9 (by have := ok5.size; (clear this bl al z8' ovl hol pz hb ha n1 Ll hlen hz93; omega)) hQ
end
end Kk
end

/-! ### W40 -/
section
open PySem PySem.W PySem.Calls PyProof.Rows PySem.Spec PySem.SeqAt Builtin
set_option maxRecDepth 100000
set_option maxHeartbeats 8000000
namespace Kk
theorem law_end {prog : Program} {w : World} {s₁ : Shared} {mg mb m : Str → Option Value} {fa a : Nat} {cd : Value} {h₁ : Heap} {tk₁ : Nat} {vs : List Value} {ns : List Int} {o1 o2 o3 o4 : Obj} {p : Program} {loose : List Str} {mean : ExcName → Option Value} {Q : Flow → Shared → Prop}
    (X' : (KF w.params).In (ghostOf s₁.heap [(20, 16), (95, 93)])) (T' : Top p loose mean mg mb (ghostOf s₁.heap [(20, 16), (95, 93)])) (F' : Fr (ghostOf s₁.heap [(20, 16), (95, 93)]) s₁.heap.objs.size h₁ m) (hm : m "script" = some (.ref a))
    (N' : News (ghostOf s₁.heap [(20, 16), (95, 93)]) s₁.heap.objs.size h₁ [(s₁.heap.objs.size + 1 + 1 + 1 + 1, o4), (s₁.heap.objs.size + 1 + 1 + 1, o3), (s₁.heap.objs.size + 1 + 1, o2), (s₁.heap.objs.size + 1, o1), (16, tabObj #[]), (93, tabObj #[])])
    (d1 : o1.data = .cell none) (d2 : o2.data = .cell none) (d3 : o3.data = .cell none) (d4 : o4.data = .cell none) (hT9 : TabsAt [(20, 16), (95, 93)] s₁.heap)
    (lifted : (ghostOf s₁.heap [(20, 16), (95, 93)]).IsList a vs.toArray) (hI : IntsAre vs ns) (hlen : ns.length ≤ 63) (l0 : 16 < s₁.heap.objs.size ∧ 93 < s₁.heap.objs.size)
    (hQ : ∀ u m', Fr (ghostOf s₁.heap [(20, 16), (95, 93)]) s₁.heap.objs.size u.heap m' → u.gens = s₁.gens → u.os = s₁.os → GrownAll [(20, 16), (95, 93)] u.heap → Q (.ret (.bool true)) u) :
    Wp prog w (callerA.deeper (envOfC "law" fdLaw.scope s₁.heap.objs.size fa cd)) (execs lawStmts (envOfC "law" fdLaw.scope s₁.heap.objs.size fa cd)) Q { heap := h₁, gens := s₁.gens, drawn := s₁.drawn, toks := tk₁, os := s₁.os } := by
  have hs : (ghostOf s₁.heap [(20, 16), (95, 93)]).objs.size = s₁.heap.objs.size := hideAll_size _ _
  have n16 := (N' (16, tabObj #[]) (List.mem_of_getElem? (i := 4) rfl)).2.2
  have n93 := (N' (93, tabObj #[]) (List.mem_of_getElem? (i := 5) rfl)).2.2
  have e16 := (N' (16, tabObj #[]) (List.mem_of_getElem? (i := 4) rfl)).1
  have e93 := (N' (93, tabObj #[]) (List.mem_of_getElem? (i := 5) rfl)).1
  have c1 := (N' (s₁.heap.objs.size + 1, o1) (List.mem_of_getElem? (i := 3) rfl)).1
  have c2 := (N' (s₁.heap.objs.size + 1 + 1, o2) (List.mem_of_getElem? (i := 2) rfl)).1
  have c3 := (N' (s₁.heap.objs.size + 1 + 1 + 1, o3) (List.mem_of_getElem? (i := 1) rfl)).1
  have c4 := (N' (s₁.heap.objs.size + 1 + 1 + 1 + 1, o4) (List.mem_of_getElem? (i := 0) rfl)).1
  have B : Base w (ghostOf s₁.heap [(20, 16), (95, 93)]) mg mb := ⟨X', T'.g, T'.b, T'.nolimit, T'.builtins, T'.bmain, n16, n93⟩
  have t20 := hT9 (20, 16) (.head _)
  have t95 := hT9 (95, 93) (.tail _ (.head _))
  have T0 : Tabs (ghostOf s₁.heap [(20, 16), (95, 93)]) s₁.heap := ⟨⟨#[], ⟨t20.1, t20.2, trivial⟩, .inl rfl⟩, ⟨#[], ⟨t95.1, t95.2, trivial⟩, .inl rfl⟩⟩
  have keep : ∀ b o, s₁.heap.get? b = some o → h₁.get? b = some o := fun b o e => by
    by_cases h16 : b = 16
    · subst h16; rw [t20.2] at e; cases e; exact e16
    · by_cases h93 : b = 93
      · subst h93; rw [t95.2] at e; cases e; exact e93
      · exact F'.keep b o (ghost_ne e (by simp [h16, h93]))
  obtain ⟨oL, esL, epL, gL, dL, _⟩ := F'.ns
  have ok : Ok (ghostOf s₁.heap [(20, 16), (95, 93)]) (callerA.deeper (envOfC "law" fdLaw.scope s₁.heap.objs.size fa cd)) h₁ (0 + 22) :=
    ⟨F'.keep, by show 1 + claimMargin + 1 + (0 + 22) < recursionLimit; decide, by show 4 + 3 + 20 * (0 + 22) < cLine; decide, rfl, _, rfl, List.cons_ne_nil _ _, fun env he => by
      rw [List.mem_singleton.mp he]
      exact ⟨(by show fdLaw.scope.kind ≠ ScopeKind.module; rw [show fdLaw.scope.kind = ScopeKind.function from rfl]; decide), _, rfl, F'.above, oL, esL, epL, gL, dL⟩⟩
  refine law_body (s₀ := s₁) (k := 0) B (by rw [hs]; exact l0.2) ok T0 ⟨fun b o e _ => .inl (keep b o e), rfl, rfl, rfl⟩ (Nat.le_refl _) (Nat.le_of_eq hs) F'.ns hm (let ⟨o, e, r⟩ := lifted; ⟨o, F'.keep _ _ e, r⟩) hI (by (clear t95 t20 hs l0; omega)) ⟨o1, c1, d1⟩ ⟨o2, c2, d2⟩ ⟨o3, c3, d3⟩ ⟨o4, c4, d4⟩ fun u m' p T n o => ?_
  obtain ⟨⟨ps, K16, _⟩, ⟨ps', K93, _⟩⟩ := T
  exact hQ u m' ⟨n, o.old, F'.above⟩ p.gens p.os ⟨⟨ps, K16.tab⟩, ⟨ps', K93.tab⟩, trivial⟩
theorem fin : PySem.Challenge.rw_ij0003_01.Holds := by
  refine hd ?_
  k_go0
  refine Wp.any (law_end (by assumption) (by assumption) (by assumption) rfl (by assumption) (by assumption) (by assumption) (by assumption) (by assumption) (by assumption) (by assumption) (by assumption) (by omega) (by assumption) fun u m' F g os gr => ⟨?_, gr⟩)
  exact goodW_bool F (g.trans (by assumption)) (fun _ => rfl) (by wrow_post) os
end Kk
end

theorem PySem.Challenge.cw_ij0003_01_holds : PySem.Challenge.rw_ij0003_01.Holds := by
  exact Kk.fin
