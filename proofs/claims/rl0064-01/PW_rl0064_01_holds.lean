import PyProof.Rows.All
import Wide.All
import OpenK.AllK
import Wide.FinOn
import KE.KTabLook
import PySem.Challenge.RW_rl0064_01
set_option Elab.async false
section
open PySem PySem.W PyProof.Rows
set_option Elab.async false
set_option maxRecDepth 100000
set_option maxHeartbeats 0
namespace Mine
open_top hd for PySem.Challenge.rw_rl0064_01
end Mine
end
section
open PySem PySem.W PySem.Calls PyProof.Rows
set_option Elab.async false
set_option maxRecDepth 100000
namespace Mine

/-- the two tables of code objects that nested defs write into -/
structure Tb where
  c : Addr
  P : Addr
  pos : Pos
  qual : Str
noncomputable def TT : List Tb := [⟨48, 44, ⟨73, 4, 82, 28⟩, Str.ofString "_int2digits.<locals>.inner"⟩, ⟨55, 51, ⟨88, 4, 93, 55⟩, Str.ofString "_digits2int.<locals>.inner"⟩]
noncomputable def tabs : List Addr := [44, 51]
theorem tt_tabs : ∀ t ∈ TT, t.P ∈ tabs := by
  intro t ht; simp only [TT, List.mem_cons, List.not_mem_nil, or_false] at ht
  rcases ht with rfl | rfl <;> simp [tabs]

noncomputable abbrev Keep (h h' : Heap) : Prop := ∀ b o, h.get? b = some o → h'.get? b = some o
noncomputable def gh (h : Heap) : Heap := hideAll h tabs
section
variable {h h' : Heap} {b : Addr} {o : Obj}
theorem gh_get (e : h.get? b = some o) (hb : b ∉ tabs) : (gh h).get? b = some o := hideAll_get _ e hb
theorem of_gh (e : (gh h).get? b = some o) : h.get? b = some o := of_hideAll _ e
theorem gh_notin (e : (gh h).get? b = some o) : b ∉ tabs := fun m => by
  have := hideAll_none tabs (h := h) m
  rw [show (hideAll h tabs).get? b = (gh h).get? b from rfl, e] at this; cases this
theorem gh_keep (k : Keep h h') : Keep (gh h) (gh h') := fun _ _ e => gh_get (k _ _ (of_gh e)) (gh_notin e)
theorem gh_sub : Keep (gh h) h := fun _ _ e => of_gh e
end

noncomputable def TabStep (t : Tb) (h h' : Heap) : Prop := ∀ ps, h.get? t.P = some (tabObj ps) → TriplesOk ps.toList →
  h'.get? t.P = some (tabObj ps) ∨ (codeAmong t.pos ps.toList = none ∧ ∃ c', h.get? c' = none ∧ (gh h').CodeRec (.ref c') t.qual ∧
    h'.get? t.P = some (tabObj (ps ++ #[rawInt t.pos.line, rawInt t.pos.col, .ref c'])))

structure SExt (mu : List Addr) (s s' : Shared) : Prop where
  kp : ∀ b o, b ∉ mu → (gh s.heap).get? b = some o → (gh s'.heap).get? b = some o
  al : ∀ b, b ∉ mu → (s.heap.get? b).isSome → (s'.heap.get? b).isSome
  tab : ∀ t ∈ TT, TabStep t s.heap s'.heap
  gens : s'.gens = s.gens
  os : s'.os = s.os
noncomputable abbrev Ext (s s' : Shared) : Prop := SExt [] s s'

noncomputable def TI (X : List Addr) (h : Heap) : Prop := ∀ t ∈ TT, ∃ ps, h.get? t.P = some (tabObj ps) ∧ TriplesOk ps.toList ∧
  (codeAmong t.pos ps.toList = none ∨ ∃ c', codeAmong t.pos ps.toList = some (.ref c') ∧ c' ∉ X ∧ (gh h).CodeRec (.ref c') t.qual)

theorem triples_snoc {a b : Int} {ta tb : Tok} {c : Value} : ∀ l : List Value, TriplesOk l → TriplesOk (l ++ [.int a ta, .int b tb, c])
  | [], _ => trivial
  | .int _ _ :: .int _ _ :: _ :: r, h => triples_snoc r h

theorem codeRec_kept {h h' : Heap} {c : Addr} {q : Str} (x : h.CodeRec (.ref c) q) (k : ∀ o, h.get? c = some o → h'.get? c = some o) : h'.CodeRec (.ref c) q := by
  obtain ⟨c2, o, vs, t, e, g, r⟩ := x
  cases e
  exact ⟨c, o, vs, t, rfl, k o g, r⟩
theorem codeRec_alloc {h : Heap} {c : Addr} {q : Str} (x : h.CodeRec (.ref c) q) : ∃ o, h.get? c = some o := by
  obtain ⟨c2, o, vs, t, e, g, r⟩ := x
  cases e
  exact ⟨o, g⟩

theorem TI.step {X : List Addr} {h h' : Heap} (x : TI X h) (ts : ∀ t ∈ TT, TabStep t h h') (al : ∀ a ∈ X, (h.get? a).isSome)
    (k : ∀ b o, b ∉ X → (gh h).get? b = some o → (gh h').get? b = some o) : TI X h' := by
  intro t ht
  obtain ⟨ps, hp, hok, hc⟩ := x t ht
  rcases ts t ht ps hp hok with hs | ⟨hn, c', hf, hr, hp'⟩
  · refine ⟨ps, hs, hok, ?_⟩
    rcases hc with hc | ⟨c', h1, h2, h3⟩
    · exact .inl hc
    · exact .inr ⟨c', h1, h2, codeRec_kept h3 fun o e => k _ _ h2 e⟩
  · refine ⟨_, hp', ?_, .inr ⟨c', ?_, ?_, hr⟩⟩
    · rw [Array.toList_append]; exact triples_snoc _ hok
    · rw [Array.toList_append]; exact codeAmong_snoc _ hok hn
    · intro hm
      have := al c' hm
      rw [hf] at this; cases this
theorem TI.mono {X Y : List Addr} {h : Heap} (x : TI X h) (s : ∀ a ∈ Y, a ∈ X) : TI Y h := by
  intro t ht
  obtain ⟨ps, hp, hok, hc⟩ := x t ht
  refine ⟨ps, hp, hok, ?_⟩
  rcases hc with hc | ⟨c', h1, h2, h3⟩
  · exact .inl hc
  · exact .inr ⟨c', h1, fun m => h2 (s _ m), h3⟩
/-- a new address is in nobody's way -/
theorem TI.fresh {X : List Addr} {h h' : Heap} {a : Addr} (x : TI X h) (hk : Keep h h') (ha : h.get? a = none) : TI (a :: X) h' := by
  intro t ht
  obtain ⟨ps, hp, hok, hc⟩ := x t ht
  refine ⟨ps, hk _ _ hp, hok, ?_⟩
  rcases hc with hc | ⟨c', h1, h2, h3⟩
  · exact .inl hc
  · refine .inr ⟨c', h1, fun m => ?_, codeRec_kept h3 fun o e => gh_keep hk _ _ e⟩
    rcases List.mem_cons.mp m with rfl | m
    · obtain ⟨o, e⟩ := codeRec_alloc h3
      rw [of_gh e] at ha; cases ha
    · exact h2 m

theorem among_snoc {pos : Pos} {c : Value} : ∀ l : List Value, TriplesOk l → codeAmong pos (l ++ [rawInt pos.line, rawInt pos.col, c]) ≠ none
  | [], _ => by simp [codeAmong, rawInt]
  | .int _ _ :: .int _ _ :: _ :: r, h => by
    simp only [List.cons_append, codeAmong]
    split
    · exact fun q => nomatch q
    · exact among_snoc r h

theorem SExt.refl (mu : List Addr) (s : Shared) : SExt mu s s := ⟨fun _ _ _ e => e, fun _ _ e => e, fun _ _ _ e _ => .inl e, rfl, rfl⟩
theorem SExt.weak {mu mu' : List Addr} {s s' : Shared} (x : SExt mu s s') (h : ∀ a ∈ mu, a ∈ mu') : SExt mu' s s' :=
  ⟨fun b o hb e => x.kp b o (fun m => hb (h b m)) e, fun b hb e => x.al b (fun m => hb (h b m)) e, x.tab, x.gens, x.os⟩
theorem SExt.trans {mu : List Addr} {s s' s'' : Shared} (x : SExt mu s s') (y : SExt mu s' s'') (al : ∀ a ∈ mu, (s.heap.get? a).isSome) (al' : ∀ a ∈ mu, (s'.heap.get? a).isSome) : SExt mu s s'' := by
  refine ⟨fun b o hb e => y.kp b o hb (x.kp b o hb e), fun b hb e => y.al b hb (x.al b hb e), fun t ht ps hp hok => ?_, y.gens.trans x.gens, y.os.trans x.os⟩
  rcases x.tab t ht ps hp hok with h1 | ⟨hn, c', hf, hr, hp'⟩
  · rcases y.tab t ht ps h1 hok with h2 | ⟨hn, c', hf, hr, hp'⟩
    · exact .inl h2
    · refine .inr ⟨hn, c', ?_, hr, hp'⟩
      cases q : s.heap.get? c' with
      | none => rfl
      | some o =>
        have hcm : c' ∉ mu := fun m => by have := al' c' m; rw [hf] at this; cases this
        have := x.al c' hcm (by rw [q]; rfl)
        rw [hf] at this; cases this
  · have hcm : c' ∉ mu := fun m => by have := al c' m; rw [hf] at this; cases this
    have hok' : TriplesOk (ps ++ #[rawInt t.pos.line, rawInt t.pos.col, .ref c']).toList := by rw [Array.toList_append]; exact triples_snoc _ hok
    rcases y.tab t ht _ hp' hok' with h2 | ⟨hn2, c2, hf2, hr2, hp2⟩
    · exact .inr ⟨hn, c', hf, codeRec_kept hr fun o e => y.kp _ _ hcm e, h2⟩
    · exfalso
      rw [Array.toList_append] at hn2
      exact among_snoc _ hok hn2
theorem Ext.trans {s s' s'' : Shared} (x : Ext s s') (y : Ext s' s'') : Ext s s'' := SExt.trans x y (fun _ h => nomatch h) fun _ h => nomatch h
theorem Ext.to {mu : List Addr} {s s' : Shared} (x : Ext s s') : SExt mu s s' := x.weak fun _ h => nomatch h
/-- whatever only adds objects -/
theorem Ext.of_keep {s : Shared} {h' : Heap} {tk : Nat} (k : Keep s.heap h') : Ext s { s with heap := h', toks := tk } :=
  ⟨fun _ _ _ e => gh_keep k _ _ e, fun b _ e => by obtain ⟨o, q⟩ := Option.isSome_iff_exists.mp e; rw [k b o q]; rfl, fun _ _ _ e _ => .inl (k _ _ e), rfl, rfl⟩
theorem Ext.toks {s : Shared} {tk : Nat} : Ext s { s with toks := tk } := Ext.of_keep (s := s) (h' := s.heap) fun _ _ e => e
theorem Ext.push {s : Shared} {o : Obj} {tk : Nat} : Ext s { s with heap := s.heap.push o, toks := tk } := Ext.of_keep fun _ _ e => Heap.get?_push_of_some _ e
theorem Ext.pushT {s : Shared} {o : Obj} : Ext s { s with heap := s.heap.push o } := Ext.push (s := s) (tk := s.toks)
theorem Ext.kp' {s s' : Shared} (x : Ext s s') : Keep (gh s.heap) (gh s'.heap) := fun b o e => x.kp b o (fun m => nomatch m) e

/-- one object of ours is written anew -/
theorem SExt.at {s : Shared} {a : Addr} {h' : Heap} {tk : Nat} (hs : Heap.SameBut a s.heap h') (ha : a ∉ tabs) :
    SExt [a] s { s with heap := h', toks := tk } := by
  have k : ∀ b o, b ≠ a → s.heap.get? b = some o → h'.get? b = some o := fun b o hb e => (hs.2 b hb).trans e
  refine ⟨fun b o hb e => ?_, fun b hb e => ?_, fun t ht ps hp _ => .inl (k _ _ (fun q => ha (q ▸ tt_tabs t ht)) hp), rfl, rfl⟩
  · have hba : b ≠ a := fun q => hb (by rw [q]; exact .head _)
    exact gh_get (k b o hba (of_gh e)) (gh_notin e)
  · have q : b ≠ a := fun q => hb (by rw [q]; exact .head _)
    obtain ⟨o, e'⟩ := Option.isSome_iff_exists.mp e
    rw [show ({ s with heap := h', toks := tk } : Shared).heap.get? b = some o from k b o q e']; rfl
/-- whatever keeps all but some objects of ours -/
theorem SExt.but {s : Shared} {wr : List Addr} {h' : Heap} {tk : Nat} (k : ∀ b o, b ∉ wr → s.heap.get? b = some o → h'.get? b = some o) (hw : ∀ b ∈ wr, b ∉ tabs) :
    SExt wr s { s with heap := h', toks := tk } := by
  refine ⟨fun b o hb e => gh_get (k b o hb (of_gh e)) (gh_notin e), fun b hb e => ?_, fun t ht ps hp _ => .inl (k _ _ (fun q => hw _ q (tt_tabs t ht)) hp), rfl, rfl⟩
  obtain ⟨o, e'⟩ := Option.isSome_iff_exists.mp e
  rw [show ({ s with heap := h', toks := tk } : Shared).heap.get? b = some o from k b o hb e']; rfl
/-- first an extension, then new objects turned -/
theorem Ext.mut {mu : List Addr} {s s₂ s' : Shared} (w : Ext s s₂) (ti : TI mu s₂.heap) (fr : ∀ b ∈ mu, s.heap.get? b = none) (x : SExt mu s₂ s') : Ext s s' := by
  refine ⟨fun b o hb e => x.kp b o (fun m => ?_) (w.kp b o hb e), fun b hb e => x.al b (fun m => ?_) (w.al b hb e), fun t ht ps hp hok => ?_, x.gens.trans w.gens, x.os.trans w.os⟩
  · have e' := of_gh e
    rw [fr b m] at e'; cases e'
  · rw [fr b m] at e; cases e
  · rcases w.tab t ht ps hp hok with h1 | ⟨hn, c', hf, hr, hp'⟩
    · rcases x.tab t ht ps h1 hok with h2 | ⟨hn, c', hf, hr, hp'⟩
      · exact .inl h2
      · refine .inr ⟨hn, c', ?_, hr, hp'⟩
        cases q : s.heap.get? c' with
        | none => rfl
        | some o =>
          have := w.al c' (fun m => nomatch m) (by rw [q]; rfl)
          rw [hf] at this; cases this
    · have hok' : TriplesOk (ps ++ #[rawInt t.pos.line, rawInt t.pos.col, .ref c']).toList := by rw [Array.toList_append]; exact triples_snoc _ hok
      have hcw : c' ∉ mu := by
        obtain ⟨ps2, g1, g2, g3⟩ := ti t ht
        rw [hp'] at g1; cases g1
        rw [Array.toList_append] at g3
        have g4 := codeAmong_snoc (pos := t.pos) (c := .ref c') _ hok hn
        rcases g3 with g3 | ⟨c2, g5, g6, _⟩
        · exact absurd g3 (among_snoc _ hok)
        · rw [show codeAmong t.pos (ps.toList ++ [rawInt t.pos.line, rawInt t.pos.col, Value.ref c']) = some (.ref c') from g4] at g5
          cases g5; exact g6
      rcases x.tab t ht _ hp' hok' with h2 | ⟨hn2, c2, hf2, hr2, hp2⟩
      · exact .inr ⟨hn, c', hf, codeRec_kept hr fun o e => x.kp _ _ hcw e, h2⟩
      · exfalso
        rw [Array.toList_append] at hn2
        exact among_snoc _ hok hn2

structure Wd where
  prog : Program
  w : World
  base : Heap
noncomputable abbrev wpF {α : Type} (W : Wd) (A : Around) (t : Sem α) (Q : α → Shared → Prop) (s : Shared) : Prop := wpAny (model W.prog W.w) A t Q (fun _ _ => False) s

noncomputable def OK (W : Wd) (s : Shared) : Prop := TI [] s.heap ∧ Keep W.base (gh s.heap)
theorem OK.ext {W : Wd} {s s' : Shared} (x : OK W s) (e : Ext s s') : OK W s' :=
  ⟨x.1.step e.tab (fun _ h => nomatch h) e.kp, fun b o q => e.kp' b o (x.2 b o q)⟩
theorem OK.all {W : Wd} {s : Shared} (x : OK W s) : Keep W.base s.heap := fun b o e => of_gh (x.2 b o e)

noncomputable def Room (k : Nat) (A : Around) : Prop := A.handled = none ∧ A.depth + k < recursionLimit ∧ A.units + 8 * k + 8 < cLine
theorem Room.less {k j : Nat} {A : Around} (r : Room k A) (h : j ≤ k) : Room j A := ⟨r.1, by have := r.2.1; (first | grind | omega), by have := r.2.2; (first | grind | omega)⟩
theorem Room.deeper {k : Nat} {A : Around} (r : Room (k + 1) A) (env : Env) : Room k (A.deeper env) :=
  ⟨r.1, by have := r.2.1; show A.depth + 1 + k < _; (first | grind | omega), by have := r.2.2; show A.units + 3 + 8 * k + 8 < _; (first | grind | omega)⟩

/-- plain data -/
inductive At where
  | none
  | bool (b : Bool)
  | int (i : Int)
  | flt (x : UInt64)
  | str (s : Str)
  deriving DecidableEq
inductive D where
  | at (a : At)
  | tup (l : List At)
  | lst (l : List At)
  | rng (lo hi : Int)
  | fn (f : Addr)
  | bi (id : String)
  | ty (n : String)
  | flags
noncomputable abbrev D.int (i : Int) : D := .at (.int i)
noncomputable abbrev D.str (s : Str) : D := .at (.str s)
noncomputable abbrev D.flt (x : UInt64) : D := .at (.flt x)
noncomputable abbrev D.bool (b : Bool) : D := .at (.bool b)
noncomputable abbrev D.none : D := .at .none

noncomputable def ARep (v : Value) : At → Prop
  | .none => v = .none
  | .bool b => v = .bool b
  | .int i => ∃ t, v = .int i t
  | .flt x => ∃ t, v = .float x t
  | .str s => ∃ t, v = .str s t
noncomputable def AReps : List Value → List At → Prop
  | [], [] => True
  | v :: vs, a :: as => ARep v a ∧ AReps vs as
  | _, _ => False
theorem AReps.length : ∀ {vs : List Value} {as : List At}, AReps vs as → vs.length = as.length
  | [], [], _ => rfl
  | _ :: _, _ :: _, h => congrArg (· + 1) (AReps.length h.2)
  | [], _ :: _, h => h.elim
  | _ :: _, [], h => h.elim
theorem AReps.get : ∀ {vs : List Value} {as : List At}, AReps vs as → ∀ {i : Nat} {a : At}, as[i]? = some a → ∃ v, vs[i]? = some v ∧ ARep v a
  | [], [], _, i, a, e => by simp at e
  | v :: vs, b :: as, h, 0, a, e => by simp at e; subst e; exact ⟨v, rfl, h.1⟩
  | v :: vs, b :: as, h, i + 1, a, e => by simpa using AReps.get h.2 (i := i) (a := a) (by simpa using e)
  | [], _ :: _, h, _, _, _ => h.elim
  | _ :: _, [], h, _, _, _ => h.elim
theorem AReps.at : ∀ {vs : List Value} {as : List At}, AReps vs as → ∀ {i : Nat} {v : Value}, vs[i]? = some v → ∃ a, as[i]? = some a ∧ ARep v a
  | [], [], _, i, a, e => by simp at e
  | v :: vs, b :: as, h, 0, a, e => by simp at e; subst e; exact ⟨b, rfl, h.1⟩
  | v :: vs, b :: as, h, i + 1, a, e => by simpa using AReps.at h.2 (i := i) (v := a) (by simpa using e)
  | [], _ :: _, h, _, _, _ => h.elim
  | _ :: _, [], h, _, _, _ => h.elim
theorem AReps.append : ∀ {vs ws : List Value} {as bs : List At}, AReps vs as → AReps ws bs → AReps (vs ++ ws) (as ++ bs)
  | [], _, [], _, _, h => h
  | _ :: _, _, _ :: _, _, h, h' => ⟨h.1, AReps.append h.2 h'⟩
  | [], _, _ :: _, _, h, _ => h.elim
  | _ :: _, _, [], _, h, _ => h.elim
theorem AReps.reverse : ∀ {vs : List Value} {as : List At}, AReps vs as → AReps vs.reverse as.reverse
  | [], [], _ => trivial
  | v :: vs, b :: as, h => by rw [List.reverse_cons, List.reverse_cons]; exact AReps.append (AReps.reverse h.2) ⟨h.1, trivial⟩
  | [], _ :: _, h => h.elim
  | _ :: _, [], h => h.elim

/-- where the table of flags' names lies -/
noncomputable def flagsAt : Addr := 71
noncomputable def Rep (h : Heap) (v : Value) : D → Prop
  | .at a => ARep v a
  | .tup l => ∃ p vs n, v = .ref p ∧ h.get? p = some { cls := .type "tuple", data := .seq vs.toArray n } ∧ AReps vs l
  | .lst l => ∃ p vs n, v = .ref p ∧ h.get? p = some { cls := .type "list", data := .seq vs.toArray n } ∧ AReps vs l
  | .rng lo hi => ∃ p t u w, v = .ref p ∧ IsRange h p lo hi 1 t u w
  | .fn f => v = .ref f
  | .bi id => v = .builtin id
  | .ty n => v = .type n
  | .flags => v = .ref flagsAt
theorem Rep.keeps {h h' : Heap} {v : Value} {d : D} (x : Rep h v d) (k : Keep h h') : Rep h' v d := by
  cases d with
  | tup l => obtain ⟨p, vs, n, e, ho, r⟩ := x; exact ⟨p, vs, n, e, k _ _ ho, r⟩
  | lst l => obtain ⟨p, vs, n, e, ho, r⟩ := x; exact ⟨p, vs, n, e, k _ _ ho, r⟩
  | rng lo hi => obtain ⟨p, t, u, w, e, ho⟩ := x; exact ⟨p, t, u, w, e, k _ _ ho⟩
  | _ => exact x
noncomputable def Reps (h : Heap) : List Value → List D → Prop
  | [], [] => True
  | v :: vs, d :: ds => Rep h v d ∧ Reps h vs ds
  | _, _ => False
theorem Reps.keeps {h h' : Heap} (k : Keep h h') : ∀ {vs : List Value} {ds : List D}, Reps h vs ds → Reps h' vs ds
  | [], [], _ => trivial
  | _ :: _, _ :: _, x => ⟨x.1.keeps k, Reps.keeps k x.2⟩
  | [], _ :: _, x => x.elim
  | _ :: _, [], x => x.elim
end Mine
end
section
open PySem PySem.W PySem.Calls PyProof.Rows
set_option Elab.async false
set_option maxRecDepth 100000
namespace Mine

structure EnvOK (env : Env) : Prop where
  kind : env.scope.kind = .function
  glob : env.globals = mainGlobals
  bi : env.builtins = builtinsNs

/-- the name's value, read in the frame or in a cell -/
noncomputable def Var (env : Env) (h : Heap) (x : Str) (v : Value) : Prop :=
  (env.kindOf x = some .local ∧ ∃ m, h.Ns env.locals m ∧ m x = some v) ∨
  ((env.kindOf x = some .cell ∨ env.kindOf x = some .free) ∧ ∃ c, env.cells.lookup x = some c ∧ h.IsCell c (some v))
theorem Var.keeps {env : Env} {h h' : Heap} {x : Str} {v : Value} (y : Var env h x v) (k : Keep h h') : Var env h' x v := by
  rcases y with ⟨a, m, hn, hm⟩ | ⟨a, c, hc, hv⟩
  · exact .inl ⟨a, m, hn.keeps k, hm⟩
  · exact .inr ⟨a, c, hc, hv.keeps k⟩
noncomputable abbrev Rho := List (Str × D)
noncomputable def okName (x : Str) : Bool := !(x == ("__debug__" : Str)) && !(x == ("__classdict__" : Str))
noncomputable def Rd (env : Env) (h : Heap) (ρ : Rho) : Prop := ∀ x d, ρ.lookup x = some d → okName x = true ∧ ∃ v, Var env h x v ∧ Rep h v d
theorem Rd.keeps {env : Env} {h h' : Heap} {ρ : Rho} (y : Rd env h ρ) (k : Keep h h') : Rd env h' ρ := fun x d e => by
  obtain ⟨a, v, b, c⟩ := y x d e
  exact ⟨a, v, b.keeps k, c.keeps k⟩

/-- the text's names that are not a def's own -/
noncomputable def GL : Rho := [(Str.ofString "int_divmod", .fn 70), (Str.ofString "range", .ty "range"), (Str.ofString "sum", .bi "sum"), (Str.ofString "_law_word", .fn 85), (Str.ofString "_law_colour", .fn 90), (Str.ofString "hex", .bi "hex"),
  (Str.ofString "COMPILER_FLAG_NAMES", .flags), (Str.ofString "len", .bi "len"), (Str.ofString "_divmod_pos", .fn 63), (Str.ofString "_int2digits", .fn 49), (Str.ofString "_digits2int", .fn 56), (Str.ofString "_div2n1n", .fn 35),
  (Str.ofString "_DIV_LIMIT", .int 4000), (Str.ofString "divmod", .bi "divmod"), (Str.ofString "reversed", .ty "reversed"), (Str.ofString "enumerate", .ty "enumerate"), (Str.ofString "min", .bi "min"), (Str.ofString "max", .bi "max"),
  (Str.ofString "abs", .bi "abs"), (Str.ofString "int", .ty "int"), (Str.ofString "pretty_flags", .fn 78), (Str.ofString "_law_points", .fn 95), (Str.ofString "rgb_to_hsv", .fn 21), (Str.ofString "hsv_to_rgb", .fn 28)]

structure BaseOK (W : Wd) : Prop where
  names : ∃ mg mb, W.base.Ns mainGlobals mg ∧ W.base.Ns builtinsNs mb ∧ ∀ x d, GL.lookup x = some d → okName x = true ∧ ∃ v, (∀ h, Rep h v d) ∧ (mg x = some v ∨ (mg x = none ∧ mb x = some v))
  lim : W.base.NoLimit
  fns : ∀ x f, GL.lookup x = some (.fn f) → ∃ o fd, W.base.get? f = some o ∧ o.data = .func fd

noncomputable abbrev Ret (s : Shared) (d : D) (Q : Value → Shared → Prop) : Prop := ∀ v s', Ext s s' → Rep (gh s'.heap) v d → Q v s'
theorem Ret.after {s s' : Shared} {d : D} {Q : Value → Shared → Prop} (r : Ret s d Q) (e : Ext s s') : Ret s' d Q := fun v s'' x y => r v s'' (e.trans x) y
noncomputable abbrev RetB (s : Shared) (b : Bool) (Q : Bool → Shared → Prop) : Prop := ∀ s', Ext s s' → Q b s'
theorem RetB.after {s s' : Shared} {b : Bool} {Q : Bool → Shared → Prop} (r : RetB s b Q) (e : Ext s s') : RetB s' b Q := fun s'' x => r s'' (e.trans x)
noncomputable abbrev RetL (s : Shared) (ds : List D) (Q : List Value → Shared → Prop) : Prop := ∀ vs s', Ext s s' → Reps (gh s'.heap) vs ds → Q vs s'

section
variable (W : Wd) (k : Nat)
noncomputable def EvTo (env : Env) (ρ : Rho) (e : Expr) (d : D) : Prop := ∀ A s Q, Room k A → OK W s → EnvOK env → Rd env (gh s.heap) ρ → Ret s d Q → wpF W A (eval e env) Q s
noncomputable def TsTo (env : Env) (ρ : Rho) (e : Expr) (b : Bool) : Prop := ∀ A s Q, Room k A → OK W s → EnvOK env → Rd env (gh s.heap) ρ → RetB s b Q → wpF W A (isTrue e env (eval e env)) Q s
noncomputable def Op1 (f : Value → Sem Value) (a d : D) : Prop := ∀ A s v Q, Room k A → OK W s → Rep (gh s.heap) v a → Ret s d Q → wpF W A (f v) Q s
noncomputable def OpB (f : Value → Sem Bool) (a : D) (b : Bool) : Prop := ∀ A s v Q, Room k A → OK W s → Rep (gh s.heap) v a → RetB s b Q → wpF W A (f v) Q s
noncomputable def Op2 (f : Value → Value → Sem Value) (a b d : D) : Prop := ∀ A s v u Q, Room k A → OK W s → Rep (gh s.heap) v a → Rep (gh s.heap) u b → Ret s d Q → wpF W A (f v u) Q s
noncomputable def OpL (f : List Value → Sem Value) (ds : List D) (d : D) : Prop := ∀ A s vs Q, Room k A → OK W s → Reps (gh s.heap) vs ds → Ret s d Q → wpF W A (f vs) Q s
end

section
variable {W : Wd} {k : Nat} {env : Env} {ρ : Rho}
theorem okName_1 {x : Str} (h : okName x = true) : (x == ("__debug__" : Str)) = false := by
  unfold okName at h; simp only [Bool.and_eq_true, Bool.not_eq_true'] at h; exact h.1
theorem okName_2 {x : Str} (h : okName x = true) : (x == ("__classdict__" : Str)) = false := by
  unfold okName at h; simp only [Bool.and_eq_true, Bool.not_eq_true'] at h; exact h.2

theorem wp_load {A : Around} {s : Shared} {x : Str} {v : Value} {Q : Value → Shared → Prop} (E : EnvOK env) (hk : okName x = true) (y : Var env (gh s.heap) x v) (q : Q v s) : wpF W A (loadName env x) Q s := by
  rcases y with ⟨a, m, hn, hm⟩ | ⟨a, c, hc, hv⟩
  · exact wpAny_loadName_local E.kind a (hn.keeps gh_sub) hm q
  · rcases a with a | a
    · exact wpAny_loadName_cell E.kind a hc (hv.keeps gh_sub) q
    · exact wpAny_loadName_free E.kind a hc (hv.keeps gh_sub) q (okName_2 hk)

theorem ev_name {x : Str} {pos : Pos} {d : D} (h : ρ.lookup x = some d) : EvTo W k env ρ (.Name x pos) d := fun A s Q _ _ E R q => by
  obtain ⟨hk, v, y, r⟩ := R x d h
  exact wpAny_Name (wp_load E hk y (q v s (.refl _ _) r)) (okName_1 hk)
theorem ev_global {x : Str} {pos : Pos} {d : D} (B : BaseOK W) (hx : env.kindOf x = some .globalImplicit) (h : GL.lookup x = some d) : EvTo W k env ρ (.Name x pos) d := fun A s Q _ ok E R q => by
  obtain ⟨mg, mb, hg, hb, all⟩ := B.names
  obtain ⟨hk, v, r, e⟩ := all x d h
  refine Name_function_global E.kind hx ?_ (okName_1 hk)
  have hg' := hg.keeps ok.all
  have hb' := hb.keeps ok.all
  rcases e with e | ⟨e1, e2⟩
  · exact loadGlobal_global (E.glob ▸ hg') e (q v s (.refl _ _) (r _))
  · exact loadGlobal_builtin (E.glob ▸ hg') e1 (E.bi ▸ hb') e2 (q v s (.refl _ _) (r _))
theorem ev_int {i : Int} {k' : Nat} {pos : Pos} : EvTo W k env ρ (.Constant (.int i) k' pos) (.int i) := fun _ s _ _ _ _ _ q => wpAny_Constant_int (q _ _ .toks ⟨_, rfl⟩)
theorem ev_flt {x : UInt64} {k' : Nat} {pos : Pos} : EvTo W k env ρ (.Constant (.float x) k' pos) (.flt x) := fun _ s _ _ _ _ _ q => fun _ _ _ => q (.float x s.toks) { s with toks := s.toks + 1 } .toks ⟨_, rfl⟩
theorem ev_str {x : Str} {k' : Nat} {pos : Pos} : EvTo W k env ρ (.Constant (.str x) k' pos) (.str x) := fun _ s _ _ _ _ _ q => Constant_str (q _ _ .toks ⟨_, rfl⟩)
theorem ev_bool {b : Bool} {k' : Nat} {pos : Pos} : EvTo W k env ρ (.Constant (.bool b) k' pos) (.bool b) := fun _ s _ _ _ _ _ q => wpAny_pure (q _ s (.refl _ _) rfl)

theorem ev_bin {l r : Expr} {op : Operator} {pos : Pos} {a b d : D} (hl : EvTo W k env ρ l a) (hr : EvTo W k env ρ r b) (ho : Op2 W k (binaryOp op) a b d) : EvTo W k env ρ (.BinOp l op r pos) d := fun A s Q rm ok E R q =>
  wpAny_BinOp (hl A s _ rm ok E R fun va s₁ x₁ r₁ => hr A s₁ _ rm (ok.ext x₁) E (R.keeps x₁.kp') fun vb s₂ x₂ r₂ =>
    ho A s₂ va vb _ rm ((ok.ext x₁).ext x₂) (r₁.keeps x₂.kp') r₂ (Ret.after q (x₁.trans x₂)))
theorem ev_un {x : Expr} {op : UnaryOp} {pos : Pos} {a d : D} (hx : EvTo W k env ρ x a) (ho : Op1 W k (unaryOp op) a d) : EvTo W k env ρ (.UnaryOp op x pos) d := fun A s Q rm ok E R q =>
  wpAny_UnaryOp (hx A s _ rm ok E R fun va s₁ x₁ r₁ => ho A s₁ va _ rm (ok.ext x₁) r₁ (Ret.after q x₁))
theorem ev_cmp {l r : Expr} {op : CmpOp} {pos : Pos} {a b d : D} (hl : EvTo W k env ρ l a) (hr : EvTo W k env ρ r b) (ho : Op2 W k (compareOp op) a b d) (hm : behindInMarks op r = false) : EvTo W k env ρ (.Compare l [op] [r] pos) d := fun A s Q rm ok E R q =>
  wpAny_Compare1 (hl A s _ rm ok E R fun va s₁ x₁ r₁ => hr A s₁ _ rm (ok.ext x₁) E (R.keeps x₁.kp') fun vb s₂ x₂ r₂ =>
    ho A s₂ va vb _ rm ((ok.ext x₁).ext x₂) (r₁.keeps x₂.kp') r₂ (Ret.after q (x₁.trans x₂))) hm
theorem ev_ifexp {t b o : Expr} {pos : Pos} {c : Bool} {d : D} (ht : TsTo W k env ρ t c) (hb : EvTo W k env ρ (if c then b else o) d) : EvTo W k env ρ (.IfExp t b o pos) d := fun A s Q rm ok E R q =>
  wpAny_IfExp (ht A s _ rm ok E R fun s₁ x₁ => by
    cases c with
    | true => exact hb A s₁ Q rm (ok.ext x₁) E (R.keeps x₁.kp') (Ret.after q x₁)
    | false => exact hb A s₁ Q rm (ok.ext x₁) E (R.keeps x₁.kp') (Ret.after q x₁))

theorem truthy_bool {b : Bool} : OpB W k truthy (.bool b) b := fun A s v Q _ _ r q => by
  obtain rfl : v = .bool b := r
  exact wpAny_truthy_bool (q s (.refl _ _))
theorem no_some {α : Type} {d : α} {P : Prop} (h : (none : Option α) = some d) : P := nomatch h
theorem some_to {α : Type} {a d : α} {P : α → Prop} (h : some a = some d) (p : P a) : P d := Option.some.inj h ▸ p
theorem no_tt {P : Prop} (h : false = true) : P := nomatch h
/-- the kinds of expressions that are told apart -/
noncomputable def tagE : Expr → Nat
  | .Starred .. => 1
  | .Slice .. => 2
  | .Set .. => 3
  | .Tuple .. => 4
  | .ListComp .. => 5
  | .SetComp .. => 6
  | .DictComp .. => 7
  | .Call .. => 8
  | .UnaryOp .. => 9
  | .BoolOp .. => 10
  | .IfExp .. => 11
  | .Compare .. => 12
  | _ => 0
/-- a test that is a plain value -/
noncomputable def plainTest (e : Expr) : Bool := Nat.blt (tagE e) 9
theorem isTrue_plain' {e : Expr} {env : Env} (h : plainTest e = true) (whole : Sem Value) : isTrue e env whole = (do let v ← whole; standAt e.pos; holding [v] (truthy v)) := by
  cases e <;> first | rfl | exact no_tt h
theorem ts_plain {e : Expr} {d : D} {b : Bool} (h : plainTest e = true) (he : EvTo W k env ρ e d) (ht : OpB W k truthy d b) : TsTo W k env ρ e b := fun A s Q rm ok E R q => by
  unfold wpF
  rw [isTrue_plain' h]
  exact wpAny_bind (he A s _ rm ok E R fun v s₁ x₁ r₁ => wpAny_bind (wpAny_standAt (wpAny_holding (ht A s₁ v Q rm (ok.ext x₁) r₁ (RetB.after q x₁)))))
theorem ts_not {e : Expr} {pos : Pos} {b : Bool} (h : TsTo W k env ρ e b) : TsTo W k env ρ (.UnaryOp .Not e pos) (!b) := fun A s Q rm ok E R q =>
  isTrue_not (h A s _ rm ok E R fun s₁ x₁ => q s₁ x₁)
theorem ts_cmp {l r : Expr} {op : CmpOp} {pos : Pos} {a b : D} {c : Bool} (hl : EvTo W k env ρ l a) (hr : EvTo W k env ρ r b) (ho : Op2 W k (compareOp op) a b (.bool c)) (hm : behindInMarks op r = false) : TsTo W k env ρ (.Compare l [op] [r] pos) c := fun A s Q rm ok E R q =>
  wpAny_isTrue_Compare1 (hl A s _ rm ok E R fun va s₁ x₁ r₁ => hr A s₁ _ rm (ok.ext x₁) E (R.keeps x₁.kp') fun vb s₂ x₂ r₂ =>
    ho A s₂ va vb _ rm ((ok.ext x₁).ext x₂) (r₁.keeps x₂.kp') r₂ fun v s₃ x₃ r₃ => by
      obtain rfl : v = .bool c := r₃
      exact wpAny_truthy_bool (q s₃ (x₁.trans (x₂.trans x₃)))) hm
theorem ts_or {x y : Expr} {pos : Pos} {a b : Bool} (hx : TsTo W k env ρ x a) (hy : a = false → TsTo W k env ρ y b) : TsTo W k env ρ (.BoolOp .Or [x, y] pos) (a || b) := fun A s Q rm ok E R q => by
  refine isTrue_or (hx A s _ rm ok E R fun s₁ x₁ => ?_)
  cases a with
  | true => exact q s₁ x₁
  | false =>
    refine isTrue_or (hy rfl A s₁ _ rm (ok.ext x₁) E (R.keeps x₁.kp') fun s₂ x₂ => ?_)
    cases b with
    | true => exact q s₂ (x₁.trans x₂)
    | false => exact isTrue_or_nil (q s₂ (x₁.trans x₂))
end
end Mine
end
section
open PySem PySem.W PySem.Calls PyProof.Rows
set_option Elab.async false
set_option maxRecDepth 100000
set_option linter.unusedVariables false
namespace Mine

noncomputable def plainArg (e : Expr) : Bool := !Nat.beq (tagE e) 1
theorem starEach_cons {e : Expr} {rest : List Expr} {env : Env} (h : plainArg e = true) : starEach (e :: rest) env = (false, eval e env) :: starEach rest env := by
  cases e <;> first | rfl | exact no_tt h
theorem backTo_cons {pos : Pos} {t : Sem Value} {rest : List (Bool × Sem Value)} : backTo pos ((false, t) :: rest) = (false, t) :: backTo pos rest := by
  simp [backTo]

inductive EvTos (W : Wd) (k : Nat) (env : Env) (ρ : Rho) : List Expr → List D → Prop
  | nil : EvTos W k env ρ [] []
  | cons {e : Expr} {es : List Expr} {d : D} {ds : List D} : plainArg e = true → EvTo W k env ρ e d → EvTos W k env ρ es ds → EvTos W k env ρ (e :: es) (d :: ds)

section
variable {W : Wd} {k : Nat} {env : Env} {ρ : Rho}
theorem sp_args {pos : Pos} {es : List Expr} {ds : List D} (h : EvTos W k env ρ es ds) : ∀ A s Q, Room k A → OK W s → EnvOK env → Rd env (gh s.heap) ρ → RetL s ds Q → wpF W A (spliced (backTo pos (starEach es env))) Q s := by
  induction h with
  | nil => intro A s Q _ _ _ _ q; exact spliced_nil (q [] s (.refl _ _) trivial)
  | cons hp he _ ih =>
    intro A s Q rm ok E R q
    rw [starEach_cons hp, backTo_cons]
    exact spliced_cons (he A s _ rm ok E R fun v s₁ x₁ r₁ => ih A s₁ _ rm (ok.ext x₁) E (R.keeps x₁.kp') fun vs s₂ x₂ r₂ => q _ s₂ (x₁.trans x₂) ⟨r₁.keeps x₂.kp', r₂⟩)
theorem plain_args {pos : Pos} {es : List Expr} {ds : List D} (h : EvTos W k env ρ es ds) : (backTo pos (starEach es env)).any (·.1) = false := by
  induction h with
  | nil => rfl
  | cons hp _ _ ih => rw [starEach_cons hp, backTo_cons, List.any_cons, ih]; rfl
theorem ev_args {pos : Pos} {f : Value} {es : List Expr} {ds : List D} (h : EvTos W k env ρ es ds) : ∀ A s (Q : Args → Shared → Prop), Room k A → OK W s → EnvOK env → Rd env (gh s.heap) ρ → RetL s ds (fun vs s' => Q ⟨vs, []⟩ s') → wpF W A (evalArgs f true (backTo pos (starEach es env)) []) Q s := by
  intro A s Q rm ok E R q
  have sp := sp_args (pos := pos) h A s _ rm ok E R q
  cases h with
  | nil => exact evalArgs_nil3 (q [] s (.refl _ _) trivial)
  | cons hp he ht =>
    rw [starEach_cons hp, backTo_cons] at sp ⊢
    exact evalArgs_plain sp

theorem areps_of {h : Heap} : ∀ {vs : List Value} {as : List At}, Reps h vs (as.map .at) → AReps vs as
  | [], [], _ => trivial
  | _ :: _, _ :: _, x => ⟨x.1, areps_of x.2⟩
  | [], _ :: _, x => x.elim
  | _ :: _, [], x => x.elim

theorem TI.big {X : List Addr} {h : Heap} (x : TI X h) {a : Addr} (ha : h.objs.size ≤ a) : a ∉ tabs := by
  intro m
  obtain ⟨ps, h1, _⟩ := x _ (.head _)
  obtain ⟨ps', h2, _⟩ := x _ (.tail _ (.head _))
  have l1 : 44 < h.objs.size := Heap.lt_size h1
  have l2 : 51 < h.objs.size := Heap.lt_size h2
  simp only [tabs, List.mem_cons, List.not_mem_nil, or_false] at m
  rcases m with rfl | rfl <;> (first | grind | omega)
theorem OK.new {s : Shared} (ok : OK W s) {o : Obj} (hf : o.isFreed = false) : (gh (s.heap.push o)).get? s.heap.objs.size = some o := gh_get (Heap.get?_push_size _ hf) (ok.1.big (Nat.le_refl _))

theorem newList_to {A : Around} {s : Shared} {vs : List Value} {as : List At} {Q : Value → Shared → Prop} (ok : OK W s) (r : AReps vs as) (hsz : as.length ≤ sizeLine) (q : Ret s (.lst as) Q) : wpF W A (newList vs) Q s :=
  wpAny_newObj_type (q _ _ .pushT ⟨s.heap.objs.size, vs, 0, rfl, ok.new rfl, r⟩) (by show vs.toArray.size ≤ sizeLine; rw [List.size_toArray, r.length]; exact hsz)
theorem newTuple_to {A : Around} {s : Shared} {vs : List Value} {as : List At} {Q : Value → Shared → Prop} (ok : OK W s) (r : AReps vs as) (hsz : as.length ≤ sizeLine) (q : Ret s (.tup as) Q) : wpF W A (newTuple vs) Q s :=
  wpAny_newObj_type (q _ _ .pushT ⟨s.heap.objs.size, vs, 0, rfl, ok.new rfl, r⟩) (by show vs.toArray.size ≤ sizeLine; rw [List.size_toArray, r.length]; exact hsz)
theorem ev_list {es : List Expr} {pos : Pos} {as : List At} (h : EvTos W k env ρ es (as.map .at)) (hsz : as.length ≤ sizeLine) : EvTo W k env ρ (.List es pos) (.lst as) := fun A s Q rm ok E R q =>
  List_ (sp_args h A s _ rm ok E R fun vs s₁ x₁ r₁ => newList_to (ok.ext x₁) (areps_of r₁) hsz (Ret.after q x₁))
theorem ev_tuple {es : List Expr} {n : Nat} {pos : Pos} {as : List At} (h : EvTos W k env ρ es (as.map .at)) (hsz : as.length ≤ sizeLine) : EvTo W k env ρ (.Tuple es n pos) (.tup as) := fun A s Q rm ok E R q =>
  Tuple_ (sp_args h A s _ rm ok E R fun vs s₁ x₁ r₁ => newTuple_to (ok.ext x₁) (areps_of r₁) hsz (Ret.after q x₁))

noncomputable def CallOK (W : Wd) (k : Nat) (f : Addr) (ds : List D) (d : D) : Prop := OpL W k (fun vs => call (.ref f) vs) ds d
theorem ev_callF {x : Str} {p pos : Pos} {args : List Expr} {f : Addr} {ds : List D} {d : D} (B : BaseOK W) (hx : env.kindOf x = some .globalImplicit) (hg : GL.lookup x = some (.fn f)) (ha : EvTos W k env ρ args ds) (hc : CallOK W k f ds d) :
    EvTo W k env ρ (.Call (.Name x p) args [] pos) d := fun A s Q rm ok E R q => by
  obtain ⟨o, fd, ho, hd⟩ := B.fns x f hg
  refine Call_Name rfl (ev_global B hx hg A s _ rm ok E R fun v s₁ x₁ r₁ => ?_)
  obtain rfl : v = .ref f := r₁
  have ok₁ := ok.ext x₁
  refine callWith_function (o := o) (fd := fd) (ev_args ha A s₁ _ rm ok₁ E (R.keeps x₁.kp') fun vs s₂ x₂ r₂ => ⟨⟨(ok₁.ext x₂).all _ _ ho, hd⟩, ?_⟩)
  exact hc A s₂ vs Q rm (ok₁.ext x₂) r₂ (Ret.after q (x₁.trans x₂))
theorem ev_callB {x : Str} {p pos : Pos} {args : List Expr} {id : String} {ds : List D} {d : D} (B : BaseOK W) (hx : env.kindOf x = some .globalImplicit) (hg : GL.lookup x = some (.bi id)) (ha : EvTos W k env ρ args ds)
    (hc : OpL W k (fun vs => call (.builtin id) vs) ds d) : EvTo W k env ρ (.Call (.Name x p) args [] pos) d := fun A s Q rm ok E R q => by
  refine Call_Name rfl (ev_global B hx hg A s _ rm ok E R fun v s₁ x₁ r₁ => ?_)
  obtain rfl : v = .builtin id := r₁
  have ok₁ := ok.ext x₁
  exact callWith_builtin (plain_args ha) (ev_args ha A s₁ _ rm ok₁ E (R.keeps x₁.kp') fun vs s₂ x₂ r₂ => hc A s₂ vs Q rm (ok₁.ext x₂) r₂ (Ret.after q (x₁.trans x₂)))
theorem ev_callT {x : Str} {p pos : Pos} {args : List Expr} {n : String} {ds : List D} {d : D} (B : BaseOK W) (hx : env.kindOf x = some .globalImplicit) (hg : GL.lookup x = some (.ty n)) (ha : EvTos W k env ρ args ds)
    (hc : OpL W k (fun vs => call (.type n) vs) ds d) : EvTo W k env ρ (.Call (.Name x p) args [] pos) d := fun A s Q rm ok E R q => by
  refine Call_Name rfl (ev_global B hx hg A s _ rm ok E R fun v s₁ x₁ r₁ => ?_)
  obtain rfl : v = .type n := r₁
  have ok₁ := ok.ext x₁
  exact PyProof.Rows.callWith_type (plain_args ha) (ev_args ha A s₁ _ rm ok₁ E (R.keeps x₁.kp') fun vs s₂ x₂ r₂ => hc A s₂ vs Q rm (ok₁.ext x₂) r₂ (Ret.after q (x₁.trans x₂)))

theorem plain_form {n : Nat} {pos : Pos} {es : List Expr} {ds : List D} (h : EvTos W k env ρ es ds) (hl : es.length < 30) : methodCallForm (es.length + ([] : List Keyword).length) (backTo pos (starEach es env)) (backToKw pos (keywordEach [] env)) = true := by
  have h1 := plain_args (pos := pos) h
  have h2 : (backTo pos (starEach es env)).all (!·.1) = true := by
    rw [List.all_eq_not_any_not]
    simp only [Bool.not_not]
    rw [h1]; rfl
  have h3 : backToKw pos (keywordEach [] env) = [] := rfl
  unfold methodCallForm
  rw [h2, h3]
  simp [hl]
/-- the method of a value -/
noncomputable def GetM (W : Wd) (name : Str) (a : D) (id : String) : Prop := ∀ A s v (pl : Sem Bool) (Q : Value × List Value → Shared → Prop), OK W s → Rep (gh s.heap) v a → Q (.builtin id, [v]) s → wpF W A (getMethod v name pl) Q s
noncomputable def notSuper (e : Expr) : Bool := !Nat.beq (tagE e) 8
theorem base_plain {o : Expr} {name : Str} {env : Env} {t : Sem Value} (h : notSuper o = true) : attributeBase o name env t = t := by
  cases o <;> first | rfl | exact no_tt h
theorem ev_meth {o : Expr} {name : Str} {apos pos : Pos} {args : List Expr} {a : D} {id : String} {ds : List D} {d : D} (ho : EvTo W k env ρ o a) (hn : notSuper o = true) (hp : (apos.endLine == pos.line) = true) (hl : args.length < 30)
    (hm : GetM W name a id) (ha : EvTos W k env ρ args ds) (hc : OpL W k (fun vs => call (.builtin id) vs) (a :: ds) d) : EvTo W k env ρ (.Call (.Attribute o name apos) args [] pos) d := fun A s Q rm ok E R q => by
  show wpF W A (do
    let ov ← attributeBase o name env (eval o env)
    standAt apos.atName
    methodCall o name apos pos env ov (args.length + ([] : List Keyword).length) (backTo pos (starEach args env)) (backToKw pos (keywordEach [] env))) Q s
  rw [base_plain hn]
  refine wpAny_bind (ho A s _ rm ok E R fun v s₁ x₁ r₁ => wpAny_bind (wpAny_standAt ?_))
  have hf := plain_form (n := 0) (pos := pos) ha hl
  unfold methodCall
  rw [hf]
  refine wpAny_bind (wpAny_holding ?_)
  unfold calleeOf
  rw [if_pos rfl]
  refine hm A s₁ v _ _ (ok.ext x₁) r₁ ?_
  dsimp only
  refine wpAny_bind ?_
  unfold methodCallPos
  rw [hp]
  refine wpAny_pure ?_
  have ok₁ := ok.ext x₁
  exact callWith_builtin (plain_args ha) (ev_args ha A s₁ _ rm ok₁ E (R.keeps x₁.kp') fun vs s₂ x₂ r₂ => hc A s₂ (v :: vs) Q rm (ok₁.ext x₂) ⟨r₁.keeps x₂.kp', r₂⟩ (Ret.after q (x₁.trans x₂)))

noncomputable def notSlice (e : Expr) : Bool := !Nat.beq (tagE e) 2
theorem ev_sub {value slice : Expr} {pos : Pos} {a b d : D} (hv : EvTo W k env ρ value a) (hs : EvTo W k env ρ slice b) (ho : Op2 W k (subscriptTail value slice) a b d) : EvTo W k env ρ (.Subscript value slice pos) d := fun A s Q rm ok E R q =>
  Subscript_ (hv A s _ rm ok E R fun va s₁ x₁ r₁ => hs A s₁ _ rm (ok.ext x₁) E (R.keeps x₁.kp') fun vb s₂ x₂ r₂ =>
    ho A s₂ va vb _ rm ((ok.ext x₁).ext x₂) (r₁.keeps x₂.kp') r₂ (Ret.after q (x₁.trans x₂)))
theorem sub_eq {slice : Expr} {o i : Value} (h : notSlice slice = true) : subscripted slice false o i = operate [o, i] (getItem o i) := by
  cases slice <;> first | rfl | exact no_tt h
end
end Mine
end
section
open PySem PySem.W PySem.Calls PyProof.Rows
set_option Elab.async false
set_option maxRecDepth 100000
set_option linter.unusedVariables false
namespace Mine

noncomputable def small (a : Int) : Bool := decide (a.natAbs < 2 ^ 64)
noncomputable def catD (xs ys : List At) : Option D := if xs.length + ys.length ≤ 100000 then some (.lst (xs ++ ys)) else none
noncomputable def binI (op : Operator) (a b : Int) : Option D := match op with
  | .Add => some (.int (a + b))
  | .Sub => some (.int (a - b))
  | .Mult => if small a || small b then some (.int (a * b)) else none
  | .FloorDiv => if small b && b != 0 then some (.int (a.fdiv b)) else none
  | .Mod => if b != 0 then some (.int (a.fmod b)) else none
  | .Pow => if small a && decide (0 ≤ b) && decide (b ≤ 1000) then some (.int (a ^ b.toNat)) else none
  | .LShift => if small a && decide (0 ≤ b) && decide (b ≤ 1000) then some (.int (a * 2 ^ b.toNat)) else none
  | .RShift => if decide (0 ≤ b) then some (.int (a.fdiv (2 ^ b.toNat))) else none
  | .BitAnd => some (.int (Builtin.bitAnd a b))
  | .BitOr => some (.int (Builtin.bitOr a b))
  | .BitXor => some (.int (Builtin.bitXor a b))
  | .Div => if small a && b != 0 then some (.flt (Float64.ofFrac (decide (a < 0) != decide (b < 0)) a.natAbs b.natAbs)) else none
  | _ => none
noncomputable def binF (op : Operator) (a b : UInt64) : Option D := match op with
  | .Add => some (.flt (Float64.add a b))
  | .Sub => some (.flt (Float64.sub a b))
  | .Mult => some (.flt (Float64.mul a b))
  | .Div => if Float64.isZero b then none else some (.flt (Float64.div a b))
  | .Mod => if Float64.isZero b then none else some (.flt (Float64.divmod a b).2)
  | _ => none
noncomputable def binFI (op : Operator) (a : UInt64) (n : Int) : Option D := match op with
  | .Add => if small n then some (.flt (Float64.add a (Float64.ofInt n))) else none
  | .Sub => if small n then some (.flt (Float64.sub a (Float64.ofInt n))) else none
  | .Mult => if small n then some (.flt (Float64.mul a (Float64.ofInt n))) else none
  | _ => none
noncomputable def binIF (op : Operator) (n : Int) (a : UInt64) : Option D := match op with
  | .Sub => if small n then some (.flt (Float64.sub (Float64.ofInt n) a)) else none
  | .Mult => if small n then some (.flt (Float64.mul (Float64.ofInt n) a)) else none
  | _ => none
noncomputable def binA (op : Operator) (x y : At) : Option D := match x with
  | .int a => (match y with
    | .int b => binI op a b
    | .flt b => binIF op a b
    | _ => none)
  | .flt a => (match y with
    | .int b => binFI op a b
    | .flt b => binF op a b
    | _ => none)
  | _ => none
noncomputable def repD (op : Operator) (xs : List At) (n : Int) : Option D := match op with
  | .Mult => (match xs with
    | [x] => if decide (0 ≤ n) && decide (n ≤ 100000) then some (.lst (List.replicate n.toNat x)) else none
    | _ => none)
  | _ => none
noncomputable def binL (op : Operator) (xs : List At) (b : D) : Option D := match b with
  | .lst ys => (match op with | .Add => catD xs ys | _ => none)
  | .at y => (match y with | .int n => repD op xs n | _ => none)
  | _ => none
noncomputable def binD (op : Operator) (a b : D) : Option D := match a with
  | .at x => (match b with | .at y => binA op x y | _ => none)
  | .lst xs => binL op xs b
  | _ => none
theorem if_some {α : Type} {c : Bool} {a d : α} (h : (if c = true then some a else none) = some d) : c = true ∧ a = d := by
  cases c with
  | true => exact ⟨rfl, Option.some.inj h⟩
  | false => exact no_some h
theorem if_none' {α : Type} {c : Bool} {a d : α} (h : (if c = true then none else some a) = some d) : c = false ∧ a = d := by
  cases c with
  | true => exact no_some h
  | false => exact ⟨rfl, Option.some.inj h⟩

section
variable {W : Wd} {k : Nat}
theorem bits_small {a : Int} (h : small a = true) : Builtin.Int.intBits a ≤ 64 := by
  have h' : a.natAbs < 2 ^ 64 := of_decide_eq_true h
  unfold Builtin.Int.intBits
  split
  · omega
  · rename_i hne
    have h0 : a.natAbs ≠ 0 := by intro q; apply hne; simp [Int.natAbs_eq_zero.mp q]
    have := (Nat.log2_lt h0).mpr h'
    omega
theorem fits_small {a : Int} (h : small a = true) : a.natAbs < 2 ^ 1023 := Nat.lt_of_lt_of_le (of_decide_eq_true h) (Nat.pow_le_pow_right (by decide) (by decide))
theorem noPylong_small {a b : Int} (h : small b = true) : Builtin.divisionGoesByPylong a b = false := by
  have h' : b.natAbs < 2 ^ 64 := of_decide_eq_true h
  unfold Builtin.divisionGoesByPylong
  simp only
  have : ¬ (if b == 0 then 0 else b.natAbs.log2 / 30 + 1) > 300 := by
    split
    · omega
    · rename_i hne
      have h0 : b.natAbs ≠ 0 := by intro q; apply hne; simp [Int.natAbs_eq_zero.mp q]
      have := (Nat.log2_lt h0).mpr h'
      omega
  rw [decide_eq_false this]; rfl

theorem bin_int {op : Operator} {a b : Int} {d : D} (h : binI op a b = some d) : Op2 W k (binaryOp op) (.int a) (.int b) d := fun A s v u Q rm ok rv ru q => by
  obtain ⟨t, rfl⟩ : ∃ t, v = .int a t := rv
  obtain ⟨t', rfl⟩ : ∃ t, u = .int b t := ru
  cases op with
  | Add => exact add_int (q _ _ .toks (some_to (P := fun d => Rep _ _ d) h ⟨_, rfl⟩))
  | Sub => exact sub_int (q _ _ .toks (some_to (P := fun d => Rep _ _ d) h ⟨_, rfl⟩))
  | Mult =>
    obtain ⟨hc, rfl⟩ := if_some h
    rcases Bool.or_eq_true_iff.mp hc with hc | hc
    · exact mul_int (q _ _ .toks ⟨_, rfl⟩) (.of_left (bits_small hc))
    · exact mul_int (q _ _ .toks ⟨_, rfl⟩) (.of_right (bits_small hc))
  | Div =>
    obtain ⟨hc, rfl⟩ := if_some h
    obtain ⟨h1, h2⟩ := Bool.and_eq_true_iff.mp hc
    have hb : b ≠ 0 := bne_iff_ne.mp h2
    exact Flt.div_ii_fits rm.1 (fits_small h1) (fun h => absurd h hb) fun _ _ => q _ _ .toks ⟨_, rfl⟩
  | Mod =>
    obtain ⟨hc, rfl⟩ := if_some h
    exact mod_int' (bne_iff_ne.mp hc) (q _ _ .toks ⟨_, rfl⟩)
  | Pow =>
    obtain ⟨hc, rfl⟩ := if_some h
    obtain ⟨h12, h3⟩ := Bool.and_eq_true_iff.mp hc
    obtain ⟨h1, h2⟩ := Bool.and_eq_true_iff.mp h12
    have h2 := of_decide_eq_true h2
    have h3 := of_decide_eq_true h3
    have hb := bits_small h1
    refine pow_int h2 ?_ (q _ _ .toks ⟨_, rfl⟩)
    have : (Builtin.Int.intBits a : Int) ≤ 64 := by omega
    have h4 : (Builtin.Int.intBits a : Int) * b ≤ 64 * b := Int.mul_le_mul_of_nonneg_right this h2
    omega
  | LShift =>
    obtain ⟨hc, rfl⟩ := if_some h
    obtain ⟨h12, h3⟩ := Bool.and_eq_true_iff.mp hc
    obtain ⟨h1, h2⟩ := Bool.and_eq_true_iff.mp h12
    have h2 := of_decide_eq_true h2
    have h3 := of_decide_eq_true h3
    exact lshift_int_small h2 (by omega) (of_decide_eq_true h1) (q _ _ .toks ⟨_, rfl⟩)
  | RShift =>
    obtain ⟨hc, rfl⟩ := if_some h
    exact rshift_int (of_decide_eq_true hc) (q _ _ .toks ⟨_, rfl⟩)
  | BitOr => exact or_int (q _ _ .toks (some_to (P := fun d => Rep _ _ d) h ⟨_, rfl⟩))
  | BitXor => exact xor_int (q _ _ .toks (some_to (P := fun d => Rep _ _ d) h ⟨_, rfl⟩))
  | BitAnd => exact and_int (q _ _ .toks (some_to (P := fun d => Rep _ _ d) h ⟨_, rfl⟩))
  | FloorDiv =>
    obtain ⟨hc, rfl⟩ := if_some h
    obtain ⟨h1, h2⟩ := Bool.and_eq_true_iff.mp hc
    exact floordiv_int (bne_iff_ne.mp h2) (q _ _ .toks ⟨_, rfl⟩) (.inl (noPylong_small h1))
  | _ => exact no_some h
theorem bin_flt {op : Operator} {a b : UInt64} {d : D} (h : binF op a b = some d) : Op2 W k (binaryOp op) (.flt a) (.flt b) d := fun A s v u Q rm ok rv ru q => by
  obtain ⟨t, rfl⟩ : ∃ t, v = .float a t := rv
  obtain ⟨t', rfl⟩ : ∃ t, u = .float b t := ru
  cases op with
  | Add => exact add_float (q _ _ .toks (some_to (P := fun d => Rep _ _ d) h ⟨_, rfl⟩))
  | Sub => exact sub_float (q _ _ .toks (some_to (P := fun d => Rep _ _ d) h ⟨_, rfl⟩))
  | Mult => exact mul_float (q _ _ .toks (some_to (P := fun d => Rep _ _ d) h ⟨_, rfl⟩))
  | Div =>
    obtain ⟨hz, rfl⟩ := if_none' h
    exact truediv_float_or rm.1 (fun x => Bool.noConfusion (hz.symm.trans x)) fun _ => q _ _ .toks ⟨_, rfl⟩
  | Mod =>
    obtain ⟨hz, rfl⟩ := if_none' h
    exact Flt.mod_ff rm.1 (fun x => Bool.noConfusion (hz.symm.trans x)) fun _ => q _ _ .toks ⟨_, rfl⟩
  | _ => exact no_some h
theorem bin_fi {op : Operator} {a : UInt64} {b : Int} {d : D} (h : binFI op a b = some d) : Op2 W k (binaryOp op) (.flt a) (.int b) d := fun A s v u Q rm ok rv ru q => by
  obtain ⟨t, rfl⟩ : ∃ t, v = .float a t := rv
  obtain ⟨t', rfl⟩ : ∃ t, u = .int b t := ru
  cases op with
  | Add => obtain ⟨hs, rfl⟩ := if_some h; exact add_fi_fits (fits_small hs) (q _ _ .toks ⟨_, rfl⟩)
  | Sub => obtain ⟨hs, rfl⟩ := if_some h; exact sub_fi_fits (fits_small hs) (q _ _ .toks ⟨_, rfl⟩)
  | Mult => obtain ⟨hs, rfl⟩ := if_some h; exact mul_fi_fits (fits_small hs) (q _ _ .toks ⟨_, rfl⟩)
  | _ => exact no_some h
theorem bin_if {op : Operator} {a : Int} {b : UInt64} {d : D} (h : binIF op a b = some d) : Op2 W k (binaryOp op) (.int a) (.flt b) d := fun A s v u Q rm ok rv ru q => by
  obtain ⟨t, rfl⟩ : ∃ t, v = .int a t := rv
  obtain ⟨t', rfl⟩ : ∃ t, u = .float b t := ru
  cases op with
  | Sub => obtain ⟨hs, rfl⟩ := if_some h; exact sub_if_fits (fits_small hs) (q _ _ .toks ⟨_, rfl⟩)
  | Mult => obtain ⟨hs, rfl⟩ := if_some h; exact mul_if_fits (fits_small hs) (q _ _ .toks ⟨_, rfl⟩)
  | _ => exact no_some h
theorem sizeLine_big {n : Nat} (h : n ≤ 100000) : n ≤ sizeLine := Nat.le_trans h (by decide)
theorem bin_cat {xs ys : List At} {d : D} (h : catD xs ys = some d) : Op2 W k (binaryOp .Add) (.lst xs) (.lst ys) d := fun A s v u Q rm ok rv ru q => by
  obtain ⟨p, vs, n, rfl, hp, rp⟩ := rv
  obtain ⟨p', vs', n', rfl, hp', rp'⟩ := ru
  by_cases hs : xs.length + ys.length ≤ 100000
  · obtain rfl : D.lst (xs ++ ys) = d := Option.some.inj ((if_pos hs).symm.trans h)
    refine P.add_list (of_gh hp) (of_gh hp') (q _ _ .pushT ⟨_, vs ++ vs', 0, rfl, ?_, rp.append rp'⟩) ?_
    · rw [show (vs ++ vs').toArray = vs.toArray ++ vs'.toArray by simp]
      exact ok.new rfl
    · rw [List.size_toArray, List.size_toArray, rp.length, rp'.length]
      exact sizeLine_big hs
  · exact no_some ((if_neg hs).symm.trans h)
theorem areps_rep {v : Value} {a : At} (r : ARep v a) : ∀ n : Nat, AReps (List.replicate n v) (List.replicate n a)
  | 0 => trivial
  | n + 1 => ⟨r, areps_rep r n⟩
theorem bin_repF {x : At} {n : Int} (h0 : 0 ≤ n) (h1 : n ≤ 100000) {A : Around} {s : Shared} {v u : Value} {Q : Value → Shared → Prop} (rm : Room k A) (ok : OK W s) (rv : Rep (gh s.heap) v (.lst [x])) (ru : Rep (gh s.heap) u (.int n)) (q : ∀ l s', Ext s s' → s.heap.get? l = none → Rep (gh s'.heap) (.ref l) (.lst (List.replicate n.toNat x)) → Q (.ref l) s') : wpF W A (binaryOp .Mult v u) Q s := by
  obtain ⟨p, vs, m, rfl, hp, rp⟩ := rv
  obtain ⟨t', rfl⟩ : ∃ t, u = .int n t := ru
  obtain ⟨v, rfl⟩ : ∃ v, vs = [v] := by
    cases vs with
    | nil => exact rp.elim
    | cons v r => cases r with
      | nil => exact ⟨v, rfl⟩
      | cons => exact rp.2.elim
  have hl : s.heap.get? p = some { cls := .type "list", dict := none, data := .seq #[v] m, slots := #[] } := of_gh hp
  have e : List.foldl (fun x1 x2 => x1 ++ x2) #[] (List.replicate (if (#[v] : Array Value).isEmpty = true then 0 else n.toNat) #[v]) = (List.replicate n.toNat v).toArray := by
    rw [listMul_foldl]
    simp
  refine wpAny_binaryOp_repeat_ref (T := "list") (U := "int") (by decide) ⟨_, hl, rfl⟩ (fun s' => typeIs_int s' n t') noFill_list_mul F.fills_int_mul F.slot_int_rmul repeat_list F.slot_int_index.lookup
    (call_meets F.slot_int_rmul (typeIs_int s n t') F.entry_int_rmul (F.args_int_rmul_2 _ _) (int___rmul___int_list n t' p #[v] m)
      ⟨hl, rfl, ⟨_, hl, rfl⟩, call_meets F.slot_list_mul ⟨_, hl, rfl⟩ F.entry_list_mul (F.args_list_mul_2 _ _)
        (AutoListH.list___mul___list_int_3 p #[v] m n t' (by simp [Builtin.List.listFitsIndex]; omega) (by have : (#[v] : Array Value).size = 1 := rfl; rw [this]; omega) (by have : (#[v] : Array Value).size = 1 := rfl; simp only [this, Builtin.List.listTooLong, sizeLine]; simp; omega))
        ⟨hl, ?_⟩⟩)
  rw [e]
  exact q _ _ .pushT (Heap.get?_none_of_le (Nat.le_refl _)) ⟨_, List.replicate n.toNat v, 0, rfl, ok.new rfl, areps_rep rp.1 _⟩
theorem bin_rep {x : At} {n : Int} (h0 : 0 ≤ n) (h1 : n ≤ 100000) : Op2 W k (binaryOp .Mult) (.lst [x]) (.int n) (.lst (List.replicate n.toNat x)) := fun A s v u Q rm ok rv ru q => bin_repF h0 h1 rm ok rv ru fun l s' x _ r => q _ s' x r

theorem rep_sound {op : Operator} {xs : List At} {n : Int} {d : D} (h : repD op xs n = some d) : Op2 W k (binaryOp op) (.lst xs) (.int n) d := by
  cases op with
  | Mult =>
    match xs, h with
    | [x], h =>
      obtain ⟨hc, rfl⟩ := if_some h
      obtain ⟨h1, h2⟩ := Bool.and_eq_true_iff.mp hc
      exact bin_rep (of_decide_eq_true h1) (of_decide_eq_true h2)
    | [], h => exact no_some h
    | _ :: _ :: _, h => exact no_some h
  | _ => exact no_some h
theorem bin_sound {op : Operator} {a b d : D} (h : binD op a b = some d) : Op2 W k (binaryOp op) a b d := by
  cases a with
  | «at» x => cases b with
    | «at» y => cases x with
      | int a => cases y with
        | int b => exact bin_int h
        | flt b => exact bin_if h
        | _ => exact no_some h
      | flt a => cases y with
        | int b => exact bin_fi h
        | flt b => exact bin_flt h
        | _ => exact no_some h
      | _ => exact no_some h
    | _ => exact no_some h
  | lst xs => cases b with
    | lst ys => cases op with
      | Add => exact bin_cat h
      | _ => exact no_some h
    | «at» y => cases y with
      | int n => exact rep_sound h
      | _ => exact no_some h
    | _ => exact no_some h
  | _ => exact no_some h

noncomputable def asInt (d : D) : Option Int := match d with
  | .at x => (match x with | .int i => some i | _ => none)
  | _ => none
theorem asInt_eq {d : D} {i : Int} (h : asInt d = some i) : d = .int i := by
  cases d with
  | «at» x => cases x with
    | int j => exact congrArg D.int (Option.some.inj h)
    | _ => exact no_some h
  | _ => exact no_some h
noncomputable def unD (op : UnaryOp) (a : D) : Option D := match op with
  | .USub => (asInt a).bind fun a => some (.int (-a))
  | .Invert => (asInt a).bind fun a => some (.int (Builtin.bitNot a))
  | _ => none
theorem un_sound {op : UnaryOp} {a d : D} (h : unD op a = some d) : Op1 W k (unaryOp op) a d := fun A s v Q rm ok rv q => by
  cases op with
  | USub =>
    obtain ⟨i, hi, h⟩ := Option.bind_eq_some_iff.mp h
    obtain rfl := asInt_eq hi
    obtain ⟨t, rfl⟩ : ∃ t, v = _ := rv
    exact neg_int (q _ _ .toks (some_to (P := fun d => Rep _ _ d) h ⟨_, rfl⟩))
  | Invert =>
    obtain ⟨i, hi, h⟩ := Option.bind_eq_some_iff.mp h
    obtain rfl := asInt_eq hi
    obtain ⟨t, rfl⟩ : ∃ t, v = _ := rv
    exact invert_int (q _ _ .toks (some_to (P := fun d => Rep _ _ d) h ⟨_, rfl⟩))
  | _ => exact no_some h

noncomputable def atInt : At → Option Int
  | .int i => some i
  | _ => none
noncomputable def atStr : At → Option Str
  | .str x => some x
  | _ => none
theorem atInt_eq {a : At} {i : Int} (h : atInt a = some i) : a = .int i := by
  cases a with
  | int j => exact congrArg At.int (Option.some.inj h)
  | _ => exact no_some h
theorem atStr_eq {a : At} {i : Str} (h : atStr a = some i) : a = .str i := by
  cases a with
  | str j => exact congrArg At.str (Option.some.inj h)
  | _ => exact no_some h
/-- every item, or none -/
noncomputable def allOf {α : Type} (f : At → Option α) : List At → Option (List α)
  | [] => some []
  | a :: r => (f a).bind fun i => (allOf f r).map (i :: ·)
theorem allOf_cons {α : Type} {f : At → Option α} {a : At} {as : List At} {ns : List α} (h : allOf f (a :: as) = some ns) : ∃ i ms, f a = some i ∧ allOf f as = some ms ∧ ns = i :: ms := by
  obtain ⟨i, hi, e⟩ := Option.bind_eq_some_iff.mp h
  obtain ⟨ms, e1, e2⟩ := Option.map_eq_some_iff.mp e
  exact ⟨i, ms, hi, e1, e2.symm⟩
theorem allOf_len {α : Type} {f : At → Option α} : ∀ {as : List At} {ns : List α}, allOf f as = some ns → as.length = ns.length
  | [], ns, e => congrArg List.length (Option.some.inj (show some ([] : List α) = some ns from e))
  | a :: as, ns, e => by
    obtain ⟨i, ms, _, e1, rfl⟩ := allOf_cons e
    exact congrArg (· + 1) (allOf_len e1)
noncomputable abbrev intsOf : List At → Option (List Int) := allOf atInt
noncomputable abbrev strsOf : List At → Option (List Str) := allOf atStr
theorem areps_cons {v : Value} {vs : List Value} {as : List At} (r : AReps (v :: vs) as) : ∃ a bs, as = a :: bs ∧ ARep v a ∧ AReps vs bs := by
  cases as with
  | nil => exact r.elim
  | cons a bs => exact ⟨a, bs, rfl, r⟩
theorem areps_nil {as : List At} (r : AReps [] as) : as = [] := by
  cases as with
  | nil => rfl
  | cons a bs => exact r.elim
theorem intsAre_of {vs : List Value} {as : List At} {ns : List Int} (r : AReps vs as) (e : intsOf as = some ns) : IntsAre vs ns := by
  induction vs generalizing as ns with
  | nil =>
    obtain rfl := areps_nil r
    obtain rfl : ([] : List Int) = ns := Option.some.inj e
    exact .nil
  | cons v vs ih =>
    obtain ⟨a, bs, rfl, ra, rb⟩ := areps_cons r
    obtain ⟨i, ms, hi, e1, rfl⟩ := allOf_cons e
    obtain rfl := atInt_eq hi
    obtain ⟨t, rfl⟩ := ra
    exact .cons _ _ (ih rb e1)
theorem strsAre_of {vs : List Value} {as : List At} {ns : List Str} (r : AReps vs as) (e : strsOf as = some ns) : StrsAre vs ns := by
  induction vs generalizing as ns with
  | nil =>
    obtain rfl := areps_nil r
    obtain rfl : ([] : List Str) = ns := Option.some.inj e
    exact .nil
  | cons v vs ih =>
    obtain ⟨a, bs, rfl, ra, rb⟩ := areps_cons r
    obtain ⟨i, ms, hi, e1, rfl⟩ := allOf_cons e
    obtain rfl := atStr_eq hi
    obtain ⟨t, rfl⟩ := ra
    exact .cons _ _ (ih rb e1)
theorem isList_of {h : Heap} {p : Addr} {vs : List Value} {n : Nat} (e : h.get? p = some { cls := .type "list", data := .seq vs.toArray n }) : h.IsList p vs.toArray := ⟨_, e, rfl, n, rfl⟩
end
end Mine
end
section
open PySem PySem.W PySem.Calls PyProof.Rows PySem.Spec PySem.SeqAt PySem.SeqRoads2 PySem.MeetsSeq
set_option Elab.async false
set_option maxRecDepth 100000
set_option linter.unusedVariables false
namespace Mine
section
variable {W : Wd} {k : Nat} {env : Env} {ρ : Rho}

noncomputable def cmpI (op : CmpOp) (a b : Int) : Option Bool := match op with
  | .Eq => some (a == b)
  | .NotEq => some (a != b)
  | .Lt => some (decide (a < b))
  | .LtE => some (decide (a ≤ b))
  | .Gt => some (decide (b < a))
  | .GtE => some (decide (b ≤ a))
  | _ => none
noncomputable def cmpF (op : CmpOp) (a b : UInt64) : Option Bool := match op with
  | .Eq => some (Float64.cmp a b == some Ordering.eq)
  | _ => none
noncomputable def cmpFI (op : CmpOp) (a : UInt64) (n : Int) : Option Bool := match op with
  | .Lt => some (Float64.cmpInt a n == some Ordering.lt)
  | .GtE => some (Float64.cmpInt a n == some Ordering.gt || Float64.cmpInt a n == some Ordering.eq)
  | _ => none
noncomputable def cmpIF (op : CmpOp) (n : Int) (a : UInt64) : Option Bool := match op with
  | .LtE => some (Float64.cmpInt a n == some Ordering.gt || Float64.cmpInt a n == some Ordering.eq)
  | _ => none
noncomputable def cmpA (op : CmpOp) (x y : At) : Option Bool := match x with
  | .int a => (match y with
    | .int b => cmpI op a b
    | .flt b => cmpIF op a b
    | _ => none)
  | .flt a => (match y with
    | .int b => cmpFI op a b
    | .flt b => cmpF op a b
    | _ => none)
  | _ => none
noncomputable def inI (op : CmpOp) (n : Int) (ns : List Int) : Option Bool := match op with
  | .In => some (ns.any (· == n))
  | .NotIn => some (!(ns.any (· == n)))
  | _ => none
noncomputable def inS (op : CmpOp) (n : Str) (ns : List Str) : Option Bool := match op with
  | .In => some (ns.any (· == n))
  | _ => none
noncomputable def cmpIn (op : CmpOp) (x : At) (as : List At) : Option Bool := match x with
  | .int n => (intsOf as).bind (inI op n)
  | .str n => (strsOf as).bind (inS op n)
  | _ => none
noncomputable def cmpR (op : CmpOp) (x : At) (lo hi : Int) : Option Bool := match op with
  | .NotIn => (atInt x).bind fun n => some (!(decide (lo ≤ n) && decide (n < hi)))
  | _ => none
noncomputable def cmpL (op : CmpOp) (xs ys : List At) : Option Bool := match op with
  | .Eq => (strsOf xs).bind fun ns => if (decide (xs = ys) && ns.all PyData.strOk) = true then some true else none
  | _ => none
noncomputable def cmpD (op : CmpOp) (a b : D) : Option Bool := match a with
  | .at x => (match b with
    | .at y => cmpA op x y
    | .lst as => cmpIn op x as
    | .rng lo hi => cmpR op x lo hi
    | _ => none)
  | .lst xs => (match b with
    | .lst ys => cmpL op xs ys
    | _ => none)
  | _ => none

theorem reads_strs {h : Heap} {vs : List Value} {as : List At} {ns : List Str} (r : AReps vs as) (e : strsOf as = some ns) : ∃ l, ReadsAll h vs (ns.map PyData.str) l := by
  induction vs generalizing as ns with
  | nil =>
    obtain rfl := areps_nil r
    obtain rfl : ([] : List Str) = ns := Option.some.inj e
    exact ⟨_, .nil⟩
  | cons v vs ih =>
    obtain ⟨a, bs, rfl, ra, rb⟩ := areps_cons r
    obtain ⟨i, ms, hi, e1, rfl⟩ := allOf_cons e
    obtain rfl := atStr_eq hi
    obtain ⟨t, rfl⟩ := ra
    obtain ⟨l, hl⟩ := ih rb e1
    exact ⟨_, .cons (.str _ _) hl⟩
theorem canLay_strs : ∀ ns : List Str, ns.all PyData.strOk = true → PyData.canLayAll0 (ns.map PyData.str) = true
  | [], _ => by simp [PyData.canLayAll0]
  | n :: ns, h => by
    rw [List.all_cons, Bool.and_eq_true] at h
    simp [PyData.canLayAll0, PyData.canLay0, canLay_strs ns h.2, h.1]
theorem depth_strs : ∀ ns : List Str, PyData.depthAll (ns.map PyData.str) ≤ 1
  | [] => by simp [PyData.depthAll]
  | n :: ns => by have := depth_strs ns; simp [PyData.depthAll, PyData.depth]; (first | grind | omega)
theorem noMix_strs : ∀ ns : List Str, noMixAll (ns.map PyData.str) (ns.map PyData.str) = true
  | [] => by simp [noMixAll]
  | n :: ns => by simp [noMixAll, noMix, noMix_strs ns]

theorem place_one (lo hi n : Int) : (Builtin.Range.rangePlace? lo hi 1 n).isSome = (decide (lo ≤ n) && decide (n < hi)) := by
  unfold Builtin.Range.rangePlace?
  simp only [show (1 : Int) > 0 by decide, if_true, Int.emod_one, beq_self_eq_true, Bool.and_true, Int.ediv_one]
  cases decide (lo ≤ n) <;> cases decide (n < hi) <;> rfl
theorem range_contains {r : Addr} {lo hi n : Int} {t u w t' : Tok} : Meets (Builtin.«range.__contains__» ⟨[.ref r, .int n t'], []⟩) (fun _ R s => IsRange s.heap r lo hi 1 t u w ∧ R (.ok (.ret (.bool (decide (lo ≤ n) && decide (n < hi))))) s) := by
  intro prog w' A R s h
  obtain ⟨hp, g, d, tk, os⟩ := s; obtain ⟨hl, h⟩ := h
  rw [← place_one] at h
  wp_walk using AutoSeq1.wpAny_loadPart' hl
  exact h
theorem notIn_range {A : Around} {s : Shared} {r : Addr} {lo hi n : Int} {t u w t' : Tok} {Q : Value → Shared → Prop} (hr : IsRange s.heap r lo hi 1 t u w) (h : Q (.bool (!(decide (lo ≤ n) && decide (n < hi)))) s) :
    wpF W A (compareOp .NotIn (.int n t') (.ref r)) Q s :=
  notIn_meets ⟨_, hr, rfl⟩ F.slot_range_contains F.entry_range_contains (F.args_range_contains_2 _ _) range_contains ⟨hr, _, rfl, h⟩

theorem cmpA_sound {op : CmpOp} {x y : At} {c : Bool} (h : cmpA op x y = some c) : Op2 W k (compareOp op) (.at x) (.at y) (.bool c) := fun A s v u Q rm ok rv ru q => by
  have to : ∀ {b : Bool}, some b = some c → Q (.bool b) s := fun e => q _ s (.refl _ _) (congrArg Value.bool (Option.some.inj e))
  cases x with
  | int a =>
    obtain ⟨t, rfl⟩ : ∃ t, v = _ := rv
    cases y with
    | int b =>
      obtain ⟨t', rfl⟩ : ∃ t, u = _ := ru
      cases op with
      | Eq => exact eq_int (to h)
      | NotEq => exact ne_int (to h)
      | Lt => exact lt_int (to h)
      | LtE => exact le_int (to h)
      | Gt => exact gt_int (to h)
      | GtE => exact ge_int (to h)
      | _ => exact no_some h
    | flt b =>
      obtain ⟨t', rfl⟩ : ∃ t, u = _ := ru
      cases op with
      | LtE => exact le_if (to h)
      | _ => exact no_some h
    | _ => exact no_some h
  | flt a =>
    obtain ⟨t, rfl⟩ : ∃ t, v = _ := rv
    cases y with
    | int b =>
      obtain ⟨t', rfl⟩ : ∃ t, u = _ := ru
      cases op with
      | Lt => exact lt_fi (to h)
      | GtE => exact ge_fi (to h)
      | _ => exact no_some h
    | flt b =>
      obtain ⟨t', rfl⟩ : ∃ t, u = _ := ru
      cases op with
      | Eq => exact AutoFloatOps.eq_0 (to h)
      | _ => exact no_some h
    | _ => exact no_some h
  | _ => exact no_some h
theorem cmpIn_sound {op : CmpOp} {x : At} {as : List At} {c : Bool} (h : cmpIn op x as = some c) : Op2 W k (compareOp op) (.at x) (.lst as) (.bool c) := fun A s v u Q rm ok rv ru q => by
  have to : ∀ {b : Bool}, some b = some c → Q (.bool b) s := fun e => q _ s (.refl _ _) (congrArg Value.bool (Option.some.inj e))
  obtain ⟨p, vs, n, rfl, hp, rp⟩ := ru
  cases x with
  | int a =>
    obtain ⟨t, rfl⟩ : ∃ t, v = _ := rv
    obtain ⟨ns, hns, h⟩ := Option.bind_eq_some_iff.mp h
    cases op with
    | In => exact in_list_ints (isList_of (of_gh hp)) (intsAre_of rp hns) (to h)
    | NotIn => exact notin_list_ints (isList_of (of_gh hp)) (intsAre_of rp hns) (to h)
    | _ => exact no_some h
  | str a =>
    obtain ⟨t, rfl⟩ : ∃ t, v = _ := rv
    obtain ⟨ns, hns, h⟩ := Option.bind_eq_some_iff.mp h
    cases op with
    | In => exact in_list_strs (isList_of (of_gh hp)) (strsAre_of rp hns) (to h)
    | _ => exact no_some h
  | _ => exact no_some h
theorem cmpL_sound (h8 : 8 ≤ k) {op : CmpOp} {xs ys : List At} {c : Bool} (h : cmpL op xs ys = some c) : Op2 W k (compareOp op) (.lst xs) (.lst ys) (.bool c) := fun A s v u Q rm ok rv ru q => by
  obtain ⟨p, vs, n, rfl, hp, rp⟩ := rv
  obtain ⟨p', vs', n', rfl, hp', rp'⟩ := ru
  cases op with
  | Eq =>
    obtain ⟨ns, hns, h⟩ := Option.bind_eq_some_iff.mp h
    obtain ⟨hc, rfl⟩ := if_some h
    obtain ⟨he, hok⟩ := Bool.and_eq_true_iff.mp hc
    have he := of_decide_eq_true he
    subst he
    obtain ⟨l, hl⟩ := reads_strs (h := s.heap) rp hns
    obtain ⟨l', hl'⟩ := reads_strs (h := s.heap) rp' hns
    have hd := depth_strs ns
    have sh : shaped (.list (ns.map PyData.str)) = true := by
      unfold shaped
      rw [Bool.and_eq_true]
      refine ⟨by simp [PyData.canLay0, canLay_strs ns hok], decide_eq_true ?_⟩
      simp [PyData.depth]; (first | grind | omega)
    have hsame : same (.list (ns.map PyData.str)) (.list (ns.map PyData.str)) = true := same_refl _
    refine eq_dataH_same (da := .list (ns.map PyData.str)) (db := .list (ns.map PyData.str)) (.list (of_gh hp) rfl rfl (by exact hl)) (.list (of_gh hp') rfl rfl (by exact hl')) sh sh ?_ (by rw [noMix]; exact noMix_strs ns) ?_
    · have := rm.2.2; (first | grind | omega)
    · rw [hsame]; exact q _ s (.refl _ _) rfl
  | _ => exact no_some h
theorem cmp_sound (h8 : 8 ≤ k) {op : CmpOp} {a b : D} {c : Bool} (h : cmpD op a b = some c) : Op2 W k (compareOp op) a b (.bool c) := by
  cases a with
  | «at» x => cases b with
    | «at» y => exact cmpA_sound h
    | lst as => exact cmpIn_sound h
    | rng lo hi =>
      cases op with
      | NotIn =>
        obtain ⟨n, hn, h⟩ := Option.bind_eq_some_iff.mp h
        obtain rfl := atInt_eq hn
        intro A s v u Q rm ok rv ru q
        obtain ⟨t, rfl⟩ : ∃ t, v = _ := rv
        obtain ⟨p, t1, t2, t3, rfl, hp⟩ := ru
        exact notIn_range (of_gh hp) (q _ s (.refl _ _) (congrArg Value.bool (Option.some.inj h)))
      | _ => exact no_some h
    | _ => exact no_some h
  | lst xs => cases b with
    | lst ys => exact cmpL_sound h8 h
    | _ => exact no_some h
  | _ => exact no_some h

/-- items by a place -/
noncomputable def itemA (as : List At) (b : D) : Option D := (asInt b).bind fun i => if (decide (0 ≤ i) && decide (i < 100000)) = true then (as[i.toNat]?).map .at else none
noncomputable def itemD (a b : D) : Option D := match a with
  | .lst as => itemA as b
  | .tup as => itemA as b
  | _ => none
theorem item_at {as : List At} {i : Int} {x : At} (h0 : 0 ≤ i) (h1 : i < 100000) (h : as[i.toNat]? = some x) : itemD (.lst as) (.int i) = some (.at x) := by
  show (if (decide (0 ≤ i) && decide (i < 100000)) = true then (as[i.toNat]?).map D.at else none) = _
  rw [if_pos (Bool.and_eq_true_iff.mpr ⟨decide_eq_true h0, decide_eq_true h1⟩), h]; rfl
theorem itemA_of {as : List At} {b d : D} (h : itemA as b = some d) : ∃ i x, b = .int i ∧ 0 ≤ i ∧ i < 100000 ∧ as[i.toNat]? = some x ∧ d = .at x := by
  obtain ⟨i, hi, h⟩ := Option.bind_eq_some_iff.mp h
  by_cases hc : (decide (0 ≤ i) && decide (i < 100000)) = true
  · obtain ⟨x, hx, e⟩ := Option.map_eq_some_iff.mp ((if_pos hc).symm.trans h)
    obtain ⟨h1, h2⟩ := Bool.and_eq_true_iff.mp hc
    exact ⟨i, x, asInt_eq hi, of_decide_eq_true h1, of_decide_eq_true h2, hx, e.symm⟩
  · exact no_some ((if_neg hc).symm.trans h)
theorem item_sound {value slice : Expr} {a b d : D} (hs : notSlice slice = true) (h : itemD a b = some d) : Op2 W k (subscriptTail value slice) a b d := fun A s v u Q rm ok rv ru q => by
  cases a with
  | lst as =>
    obtain ⟨i, x, rfl, h1, h2, hx, rfl⟩ := itemA_of h
    obtain ⟨p, vs, n, rfl, hp, rp⟩ := rv
    obtain ⟨t', rfl⟩ : ∃ t, u = _ := ru
    obtain ⟨v, hv, rv⟩ := rp.get hx
    exact tail_any (isList_of (of_gh hp)).typeIs slot_list_getitem.lookup (wpAny_getItem_list (isList_of (of_gh hp)) h1 (by (first | grind | omega)) (by simpa using hv) (q _ s (.refl _ _) rv)) (sub_eq hs)
  | tup as =>
    obtain ⟨i, x, rfl, h1, h2, hx, rfl⟩ := itemA_of h
    obtain ⟨p, vs, n, rfl, hp, rp⟩ := rv
    obtain ⟨t', rfl⟩ : ∃ t, u = _ := ru
    obtain ⟨v, hv, rv⟩ := rp.get hx
    have hlen : i.toNat < vs.length := by
      rcases Nat.lt_or_ge i.toNat vs.length with q | q
      · exact q
      · rw [List.getElem?_eq_none q] at hv; cases hv
    exact item_tupleT ⟨_, of_gh hp, rfl, _, rfl⟩ (by (first | grind | omega)) (by (first | grind | omega)) (seqIndex_of h1 (by (first | grind | omega))) hv (q _ s (.refl _ _) rv) (sub_eq hs)
  | _ => exact no_some h
end
end Mine
end
section
open PySem PySem.W PySem.Calls PyProof.Rows PySem.Spec PySem.SeqAt PySem.SeqRoads2 PySem.MeetsSeq
set_option Elab.async false
set_option maxRecDepth 100000
set_option linter.unusedVariables false
namespace Mine
section
variable {W : Wd} {k : Nat} {env : Env} {ρ : Rho}

noncomputable def Busy (o : Obj) : Prop := (∃ vs n, o.data = .seq vs n ∧ vs.size ≠ 0) ∨ ∃ fs, o.data = .fields fs
/-- an iterator that hands out the atoms as -/
structure Walking (W : Wd) (A : Around) (s s₂ : Shared) (as : List At) (I : Addr) (fp wr : List Addr) (P : Nat → Value → Prop) (St : Nat → Heap → Prop) : Prop where
  walks : Walks W.prog W.w A I fp wr as.length P St
  st : St 0 s₂.heap
  fpl : ∀ b ∈ fp, b < s₂.heap.objs.size
  fpt : ∀ b ∈ fp, b ∉ tabs
  item : ∀ i v, i < as.length → P i v → ∃ a, as[i]? = some a ∧ ARep v a
  ext : Ext s s₂
  ti : TI wr s₂.heap
  fresh : ∀ b ∈ wr, s.heap.get? b = none ∧ b ∉ tabs
  live : ∀ i h, St i h → ∀ b ∈ wr, (h.get? b).isSome
  plain : ∀ i h, St i h → ∀ b ∈ wr, ∀ o, h.get? b = some o → ∃ fs, o.data = .fields fs
  busy : as ≠ [] → ∀ b ∈ fp, ∃ o, s₂.heap.get? b = some o ∧ Busy o

noncomputable def ItV (W : Wd) (d : D) (as : List At) : Prop := ∀ A s v (Q : Value → Shared → Prop), A.handled = none → OK W s → Rep (gh s.heap) v d → (∀ s₂ I fp wr P St, Walking W A s s₂ as I fp wr P St → Q (.ref I) s₂) → wpF W A (pyIter v) Q s
theorem it_list {as : List At} : ItV W (.lst as) as := fun A s v Q hh ok r q => by
  obtain ⟨p, vs, n, rfl, hp, rp⟩ := r
  have hl := isList_of (of_gh hp)
  have hlt : p < s.heap.objs.size := Heap.lt_size (of_gh hp)
  have hnone : s.heap.get? s.heap.objs.size = none := Heap.get?_none_of_le (Nat.le_refl _)
  have hsz : vs.toArray.size = as.length := by rw [List.size_toArray, rp.length]
  refine wpAny_pyIter_list hl (q _ _ [s.heap.objs.size, p] [s.heap.objs.size] _ _ ⟨hsz ▸ Walks.list hh s.heap.objs.size p (Nat.ne_of_lt hlt) vs.toArray, ⟨⟨_, Heap.get?_push_size _ rfl, rfl, rfl⟩, hl.push _⟩, fun b hb => ?_, fun b hb => ?_, fun i v _ hv => rp.at (by simpa using hv), .pushT, ok.1.fresh (fun _ _ e => Heap.get?_push_of_some _ e) hnone, fun b hb => ?_, fun i h st b hb => ?_, fun i h st b hb o e => ?_, fun ha b hb => ?_⟩)
  · show b < (s.heap.push _).objs.size
    rw [Heap.size_push]
    simp only [List.mem_cons, List.not_mem_nil, or_false] at hb
    rcases hb with rfl | rfl
    · exact Nat.lt_succ_self _
    · exact Nat.lt_succ_of_lt hlt
  · simp only [List.mem_cons, List.not_mem_nil, or_false] at hb
    rcases hb with rfl | rfl
    · exact ok.1.big (Nat.le_refl _)
    · exact gh_notin hp
  · simp only [List.mem_cons, List.not_mem_nil, or_false] at hb
    subst hb
    exact ⟨hnone, ok.1.big (Nat.le_refl _)⟩
  · simp only [List.mem_cons, List.not_mem_nil, or_false] at hb
    subst hb
    obtain ⟨⟨o, ho, _⟩, _⟩ := st
    rw [ho]; rfl
  · simp only [List.mem_cons, List.not_mem_nil, or_false] at hb
    subst hb
    obtain ⟨⟨o', ho, _, hd⟩, _⟩ := st
    rw [ho] at e; cases e
    exact ⟨_, hd⟩
  · simp only [List.mem_cons, List.not_mem_nil, or_false] at hb
    rcases hb with rfl | rfl
    · exact ⟨_, Heap.get?_push_size _ rfl, .inr ⟨_, rfl⟩⟩
    · refine ⟨_, Heap.get?_push_of_some _ (of_gh hp), .inl ⟨_, _, rfl, ?_⟩⟩
      rw [hsz]
      exact fun e => ha (List.length_eq_zero_iff.mp e)
theorem it_tuple {as : List At} : ItV W (.tup as) as := fun A s v Q hh ok r q => by
  obtain ⟨p, vs, n, rfl, hp, rp⟩ := r
  have hl : s.heap.IsTuple p vs.toArray := ⟨_, of_gh hp, rfl, _, rfl⟩
  have hlt : p < s.heap.objs.size := Heap.lt_size (of_gh hp)
  have hnone : s.heap.get? s.heap.objs.size = none := Heap.get?_none_of_le (Nat.le_refl _)
  have hsz : vs.toArray.size = as.length := by rw [List.size_toArray, rp.length]
  refine wpAny_pyIter_tuple hl (q _ _ [s.heap.objs.size, p] [s.heap.objs.size] _ _ ⟨hsz ▸ Walks.tuple hh s.heap.objs.size p (Nat.ne_of_lt hlt) vs.toArray, ⟨⟨_, Heap.get?_push_size _ rfl, rfl, rfl⟩, hl.push _⟩, fun b hb => ?_, fun b hb => ?_, fun i v _ hv => rp.at (by simpa using hv), .pushT, ok.1.fresh (fun _ _ e => Heap.get?_push_of_some _ e) hnone, fun b hb => ?_, fun i h st b hb => ?_, fun i h st b hb o e => ?_, fun ha b hb => ?_⟩)
  · show b < (s.heap.push _).objs.size
    rw [Heap.size_push]
    simp only [List.mem_cons, List.not_mem_nil, or_false] at hb
    rcases hb with rfl | rfl
    · exact Nat.lt_succ_self _
    · exact Nat.lt_succ_of_lt hlt
  · simp only [List.mem_cons, List.not_mem_nil, or_false] at hb
    rcases hb with rfl | rfl
    · exact ok.1.big (Nat.le_refl _)
    · exact gh_notin hp
  · simp only [List.mem_cons, List.not_mem_nil, or_false] at hb
    subst hb
    exact ⟨hnone, ok.1.big (Nat.le_refl _)⟩
  · simp only [List.mem_cons, List.not_mem_nil, or_false] at hb
    subst hb
    obtain ⟨⟨o, ho, _⟩, _⟩ := st
    rw [ho]; rfl
  · simp only [List.mem_cons, List.not_mem_nil, or_false] at hb
    subst hb
    obtain ⟨⟨o', ho, _, hd⟩, _⟩ := st
    rw [ho] at e; cases e
    exact ⟨_, hd⟩
  · simp only [List.mem_cons, List.not_mem_nil, or_false] at hb
    rcases hb with rfl | rfl
    · exact ⟨_, Heap.get?_push_size _ rfl, .inr ⟨_, rfl⟩⟩
    · refine ⟨_, Heap.get?_push_of_some _ (of_gh hp), .inl ⟨_, _, rfl, ?_⟩⟩
      rw [hsz]
      exact fun e => ha (List.length_eq_zero_iff.mp e)
noncomputable def rngList (lo hi : Int) : List At := (List.range (hi - lo).toNat).map fun i : Nat => At.int (lo + (i : Int))
theorem it_range {lo hi : Int} (h1 : -1000000 ≤ lo) (h2 : lo ≤ 1000000) (h3 : -1000000 ≤ hi) (h4 : hi ≤ 1000000) : ItV W (.rng lo hi) (rngList lo hi) := fun A s v Q hh ok r q => by
  obtain ⟨p, t, u, x, rfl, hp⟩ := r
  have hnone : s.heap.get? s.heap.objs.size = none := Heap.get?_none_of_le (Nat.le_refl _)
  have hlen : (rngList lo hi).length = (hi - lo).toNat := by simp [rngList]
  have hsz : Builtin.Range.rangeSize lo hi 1 = ((hi - lo).toNat : Int) := by rw [rangeSize_one]; split <;> (first | grind | omega)
  refine wpAny_pyIter_range (of_gh hp) (small_one (by (first | grind | omega)) (by (first | grind | omega)) (by (first | grind | omega)) (by (first | grind | omega))) (q _ _ [s.heap.objs.size] [s.heap.objs.size] _ _ ⟨hlen ▸ Walks.range hh s.heap.objs.size lo 1 (hi - lo).toNat, ?_, fun b hb => ?_, fun b hb => ?_, fun i v hi' hv => ?_, .pushT, ok.1.fresh (fun _ _ e => Heap.get?_push_of_some _ e) hnone, fun b hb => ?_, fun i h st b hb => ?_, fun i h st b hb o e => ?_, fun ha b hb => ?_⟩)
  · show IsRangeIter _ _ _ _ _
    rw [hsz]
    have e1 : lo + ((0 : Nat) : Int) * 1 = lo := by simp
    have e2 : ((rngList lo hi).length : Int) - ((0 : Nat) : Int) = ((hi - lo).toNat : Int) := by rw [hlen]; simp
    rw [e1, e2]
    exact Heap.get?_push_size _ rfl
  · show b < (s.heap.push _).objs.size
    rw [Heap.size_push]
    simp only [List.mem_cons, List.not_mem_nil, or_false] at hb
    rw [hb]; exact Nat.lt_succ_self _
  · simp only [List.mem_cons, List.not_mem_nil, or_false] at hb
    rw [hb]; exact ok.1.big (Nat.le_refl _)
  · obtain ⟨t, rfl⟩ := hv
    rw [hlen] at hi'
    refine ⟨At.int (lo + (i : Int)), by simp [rngList, hi'], t, by simp⟩
  · simp only [List.mem_cons, List.not_mem_nil, or_false] at hb
    subst hb
    exact ⟨hnone, ok.1.big (Nat.le_refl _)⟩
  · simp only [List.mem_cons, List.not_mem_nil, or_false] at hb
    subst hb
    rw [show h.get? s.heap.objs.size = _ from st]; rfl
  · simp only [List.mem_cons, List.not_mem_nil, or_false] at hb
    subst hb
    rw [show h.get? s.heap.objs.size = _ from st] at e; cases e
    exact ⟨_, rfl⟩
  · simp only [List.mem_cons, List.not_mem_nil, or_false] at hb
    subst hb
    exact ⟨_, Heap.get?_push_size _ rfl, .inr ⟨_, rfl⟩⟩
end
end Mine
end
section
open PySem PySem.W PySem.Calls PyProof.Rows PySem.Spec PySem.SeqAt PySem.SeqRoads2 PySem.MeetsSeq
set_option Elab.async false
set_option maxRecDepth 100000
set_option linter.unusedVariables false
namespace Mine
noncomputable def FT : List (PyData × PyData) := [(.int 1, .str (Str.ofString "OPTIMIZED")), (.int 2, .str (Str.ofString "NEWLOCALS")), (.int 4, .str (Str.ofString "VARARGS")), (.int 8, .str (Str.ofString "VARKEYWORDS")), (.int 16, .str (Str.ofString "NESTED")),
  (.int 32, .str (Str.ofString "GENERATOR")), (.int 64, .str (Str.ofString "NOFREE")), (.int 128, .str (Str.ofString "COROUTINE")), (.int 256, .str (Str.ofString "ITERABLE_COROUTINE")), (.int 512, .str (Str.ofString "ASYNC_GENERATOR"))]
noncomputable def FlagsOK (W : Wd) : Prop := IntTab W.prog W.w W.base flagsAt FT

noncomputable def atFlt : At → Option UInt64
  | .flt x => some x
  | _ => none
theorem atFlt_eq {a : At} {i : UInt64} (h : atFlt a = some i) : a = .flt i := by
  cases a with
  | flt j => exact congrArg At.flt (Option.some.inj h)
  | _ => exact no_some h
noncomputable abbrev fltsOf : List At → Option (List UInt64) := allOf atFlt
noncomputable def numAt' (ns : List Int) (i : Nat) : Int := ns.getD i 0
noncomputable def fltAt (ns : List UInt64) (i : Nat) : UInt64 := ns.getD i 0
noncomputable def max3 (a b c : Int) : Int := if b > a then (if c > b then c else b) else (if c > a then c else a)
noncomputable def min3 (a b c : Int) : Int := if b < a then (if c < b then c else b) else (if c < a then c else a)
noncomputable def truncD (x : UInt64) : Option D := match Float64.decode x with
  | .fin sg m e => some (.int (Float64.truncOf sg m e))
  | _ => none
noncomputable def callL (id : String) (as : List At) : Option D :=
  if id == "sum" then (intsOf as).map fun ns => .int ns.sum
  else if id == "len" then (if decide (as.length ≤ 100000) = true then some (.int as.length) else none)
  else if id == "min" then (intsOf as).bind fun ns => if ns.isEmpty then none else some (.int (numAt' ns (argBest (fun i j => decide (numAt' ns i < numAt' ns j)) (ns.length - 1))))
  else if id == "max" then (fltsOf as).bind fun ns => if ns.isEmpty then none else some (.flt (fltAt ns (argBest (fun i j => Float64.cmp (fltAt ns i) (fltAt ns j) == some Ordering.gt) (ns.length - 1))))
  else none
noncomputable def callA (id : String) (x : At) : Option D := match x with
  | .flt x => if id == "abs" then some (.flt (Float64.abs x)) else none
  | .int i => if (id == "hex" && small i) = true then some (.str (baseText "0x" 16 i)) else none
  | _ => none
noncomputable def callB1 (id : String) (d : D) : Option D := match d with
  | .lst as => callL id as
  | .at x => callA id x
  | _ => none
noncomputable def callB2 (id : String) (d e : D) : Option D := (asInt d).bind fun a => (asInt e).bind fun b => if (id == "divmod" && b != 0 && small b) = true then some (.tup [.int (a.fdiv b), .int (a.fmod b)]) else none
noncomputable def callB3 (id : String) (d e f : D) : Option D := (asInt d).bind fun a => (asInt e).bind fun b => (asInt f).bind fun c => if id == "max" then some (.int (max3 a b c)) else if id == "min" then some (.int (min3 a b c)) else none
noncomputable def callB (id : String) (ds : List D) : Option D := match ds with
  | [d] => callB1 id d
  | [d, e] => callB2 id d e
  | [d, e, f] => callB3 id d e f
  | _ => none
noncomputable def callT1 (n : String) (d : D) : Option D := match d with
  | .at x => (match x with
    | .int a => if n == "range" then some (.rng 0 a) else none
    | .flt x => if n == "int" then truncD x else none
    | _ => none)
  | _ => none
noncomputable def callT (n : String) (ds : List D) : Option D := match ds with
  | [d] => callT1 n d
  | [d, e] => (asInt d).bind fun a => (asInt e).bind fun b => if n == "range" then some (.rng a b) else none
  | _ => none

section
variable {W : Wd} {k : Nat}
theorem ext_old {s : Shared} {o : Obj} {h' : Heap} {tk : Nat} (hk : ∀ b o', b ∉ [s.heap.objs.size] → (s.heap.push o).get? b = some o' → h'.get? b = some o') : Ext s { s with heap := h', toks := tk } :=
  Ext.of_keep fun b o' e => hk b o' (fun hm => by
    simp only [List.mem_cons, List.not_mem_nil, or_false] at hm
    exact absurd (hm ▸ Heap.lt_size e) (Nat.lt_irrefl _)) (Heap.get?_push_of_some _ e)
theorem intsOf_at : ∀ {vs : List Value} {as : List At} {ns : List Int}, AReps vs as → intsOf as = some ns → ∀ {i : Nat} {v : Value}, vs[i]? = some v → ∃ t, v = .int (numAt' ns i) t := by
  intro vs as ns r e i v hv
  have := intsAre_of r e
  clear r e as
  induction this generalizing i with
  | nil => simp at hv
  | cons n t _ ih =>
    cases i with
    | zero => simp at hv; exact ⟨t, by rw [← hv]; rfl⟩
    | succ i => simpa [numAt'] using ih (by simpa using hv)
theorem fltsOf_at {vs : List Value} {as : List At} {ns : List UInt64} (r : AReps vs as) (e : fltsOf as = some ns) {i : Nat} {v : Value} (hv : vs[i]? = some v) : ∃ t, v = .float (fltAt ns i) t := by
  induction vs generalizing as ns i with
  | nil => exact no_some hv
  | cons w vs ih =>
    obtain ⟨a, bs, rfl, ra, rb⟩ := areps_cons r
    obtain ⟨x, ms, hx, e1, rfl⟩ := allOf_cons e
    cases i with
    | zero =>
      obtain rfl := atFlt_eq hx
      obtain ⟨t, rfl⟩ := ra
      exact ⟨t, (Option.some.inj hv).symm⟩
    | succ i => exact ih rb e1 (i := i) hv
theorem intsOf_len {as : List At} {ns : List Int} (h : intsOf as = some ns) : as.length = ns.length := allOf_len h
theorem fltsOf_len {as : List At} {ns : List UInt64} (h : fltsOf as = some ns) : as.length = ns.length := allOf_len h
theorem preSum_nums (ns : List Int) : ∀ j, j ≤ ns.length → preSum (numAt' ns) j = (ns.take j).sum
  | 0, _ => by simp [preSum]
  | j + 1, h => by
    rw [preSum, preSum_nums ns j (by omega), List.take_add_one, List.sum_append]
    simp [numAt', List.getElem?_eq_getElem (show j < ns.length by omega)]

/-- a list's iterator, laid bare -/
theorem iter_raw {A : Around} {s : Shared} {p : Addr} {vs : List Value} {n : Nat} {Q : Value → Shared → Prop} (hh : A.handled = none) (hp : s.heap.get? p = some { cls := .type "list", data := .seq vs.toArray n })
    (q : Walks W.prog W.w A s.heap.objs.size [s.heap.objs.size, p] [s.heap.objs.size] vs.length (fun i v => vs[i]? = some v) (fun i h => h.IsListIter s.heap.objs.size p i ∧ h.IsList p vs.toArray) →
      ((s.heap.push { cls := .type "list_iterator", data := .fields #[.ref p, .int 0 0] }).IsListIter s.heap.objs.size p 0 ∧ (s.heap.push { cls := .type "list_iterator", data := .fields #[.ref p, .int 0 0] }).IsList p vs.toArray) →
      (∀ b ∈ [s.heap.objs.size, p], b < (s.heap.push { cls := .type "list_iterator", data := .fields #[.ref p, .int 0 0] }).objs.size) →
      Q (.ref s.heap.objs.size) { s with heap := s.heap.push { cls := .type "list_iterator", data := .fields #[.ref p, .int 0 0] } }) : wpF W A (pyIter (.ref p)) Q s := by
  have hl := isList_of hp
  have hlt : p < s.heap.objs.size := Heap.lt_size hp
  have w := Walks.list (prog := W.prog) (w := W.w) hh s.heap.objs.size p (Nat.ne_of_lt hlt) vs.toArray
  refine wpAny_pyIter_list hl (q ?_ ⟨⟨_, Heap.get?_push_size _ rfl, rfl, rfl⟩, hl.push _⟩ fun b hb => ?_)
  · simpa using w
  · rw [Heap.size_push]
    simp only [List.mem_cons, List.not_mem_nil, or_false] at hb
    rcases hb with rfl | rfl
    · exact Nat.lt_succ_self _
    · exact Nat.lt_succ_of_lt hlt
theorem repsN {h : Heap} {vs : List Value} (r : Reps h vs []) : vs = [] := by
  cases vs with
  | nil => rfl
  | cons v us => exact r.elim
theorem repsC {h : Heap} {vs : List Value} {d : D} {ds : List D} (r : Reps h vs (d :: ds)) : ∃ v us, vs = v :: us ∧ Rep h v d ∧ Reps h us ds := by
  cases vs with
  | nil => exact r.elim
  | cons v us => exact ⟨v, us, rfl, r.1, r.2⟩
theorem reps1 {h : Heap} {vs : List Value} {d : D} (r : Reps h vs [d]) : ∃ v, vs = [v] ∧ Rep h v d := by
  obtain ⟨v, us, rfl, a, r⟩ := repsC r
  obtain rfl := repsN r
  exact ⟨v, rfl, a⟩
theorem reps2 {h : Heap} {vs : List Value} {d e : D} (r : Reps h vs [d, e]) : ∃ v u, vs = [v, u] ∧ Rep h v d ∧ Rep h u e := by
  obtain ⟨v, us, rfl, a, r⟩ := repsC r
  obtain ⟨u, rfl, b⟩ := reps1 r
  exact ⟨v, u, rfl, a, b⟩
theorem reps3 {h : Heap} {vs : List Value} {d e f : D} (r : Reps h vs [d, e, f]) : ∃ v u x, vs = [v, u, x] ∧ Rep h v d ∧ Rep h u e ∧ Rep h x f := by
  obtain ⟨v, us, rfl, a, r⟩ := repsC r
  obtain ⟨u, x, rfl, b, c⟩ := reps2 r
  exact ⟨v, u, x, rfl, a, b, c⟩

theorem call_sum {as : List At} {ns : List Int} (hns : intsOf as = some ns) : OpL W k (fun vs => call (.builtin "sum") vs) [.lst as] (.int ns.sum) := fun A s vs Q rm ok r q => by
  obtain ⟨v, rfl, p, vs, n, rfl, hp, rp⟩ := reps1 r
  refine call_sum_walkG (iter_raw (A := A.in1) rm.1 (of_gh hp) fun w st fpl => ⟨_, _, _, _, _, _, numAt' ns, rfl, w, st, fpl, fun i v hv => intsOf_at rp hns hv, fun h' tk t' hk => ?_⟩)
  rw [preSum_nums ns _ (by rw [rp.length, intsOf_len hns]; exact Nat.le_refl _), show vs.length = ns.length by rw [rp.length, intsOf_len hns], List.take_length]
  exact q _ _ (ext_old hk) ⟨_, rfl⟩
theorem call_len {as : List At} (hl : as.length ≤ 100000) : OpL W k (fun vs => call (.builtin "len") vs) [.lst as] (.int as.length) := fun A s vs Q rm ok r q => by
  obtain ⟨v, rfl, p, vs, n, rfl, hp, rp⟩ := reps1 r
  have e : vs.toArray.size = as.length := by rw [List.size_toArray, rp.length]
  refine len_list (isList_of (of_gh hp)) (by rw [e]; omega) ?_
  rw [e]
  exact q _ _ .toks ⟨_, rfl⟩
theorem call_minL {as : List At} {ns : List Int} (hns : intsOf as = some ns) (hne : ns.isEmpty = false) :
    OpL W k (fun vs => call (.builtin "min") vs) [.lst as] (.int (numAt' ns (argBest (fun i j => decide (numAt' ns i < numAt' ns j)) (ns.length - 1)))) := fun A s vs Q rm ok r q => by
  obtain ⟨v, rfl, p, vs, n, rfl, hp, rp⟩ := reps1 r
  have el : vs.length = ns.length := by rw [rp.length, intsOf_len hns]
  have hpos : 0 < ns.length := by cases ns with | nil => simp at hne | cons => simp
  refine call_min_walk (iter_raw (A := A.in1) rm.1 (of_gh hp) fun w st fpl => ⟨_, _, _, _, _, _, _, rfl, w, st, fpl, by omega, CmpOf.ints_lt (numAt' ns) (fun i v hv => intsOf_at rp hns hv), fun v h' tk hv hk => ?_⟩)
  rw [el] at hv
  exact q _ _ (ext_old hk) (intsOf_at rp hns hv)
theorem cmp_gt_flt {prog : Program} {w : World} {A : Around} {P : Nat → Value → Prop} (val : Nat → UInt64) (hval : ∀ i v, P i v → ∃ t, v = .float (val i) t) :
    CmpOf prog w A .Gt P (fun i j => Float64.cmp (val i) (val j) == some Ordering.gt) := fun i j vi vj s Q E hi hj h => by
  obtain ⟨t, rfl⟩ := hval i vi hi
  obtain ⟨u, rfl⟩ := hval j vj hj
  exact richCompare_gives (op := .Gt) (typeIs_float s _ t) (typeIs_float s _ u) F.slot_float_gt F.entry_float_gt (F.args_float_gt_2 _ _) (AutoFloatG4.float___gt___float_float_0 _ t _ u) (fun x => nomatch x) h
theorem call_maxL {as : List At} {ns : List UInt64} (hns : fltsOf as = some ns) (hne : ns.isEmpty = false) :
    OpL W k (fun vs => call (.builtin "max") vs) [.lst as] (.flt (fltAt ns (argBest (fun i j => Float64.cmp (fltAt ns i) (fltAt ns j) == some Ordering.gt) (ns.length - 1)))) := fun A s vs Q rm ok r q => by
  obtain ⟨v, rfl, p, vs, n, rfl, hp, rp⟩ := reps1 r
  have el : vs.length = ns.length := by rw [rp.length, fltsOf_len hns]
  have hpos : 0 < ns.length := by cases ns with | nil => simp at hne | cons => simp
  refine call_max_walk (iter_raw (A := A.in1) rm.1 (of_gh hp) fun w st fpl => ⟨_, _, _, _, _, _, _, rfl, w, st, fpl, by omega, cmp_gt_flt (fltAt ns) (fun i v hv => fltsOf_at rp hns hv), fun v h' tk hv hk => ?_⟩)
  rw [el] at hv
  exact q _ _ (ext_old hk) (fltsOf_at rp hns hv)
theorem callL_sound {id : String} {as : List At} {d : D} (h : callL id as = some d) : OpL W k (fun vs => call (.builtin id) vs) [.lst as] d := by
  unfold callL at h
  by_cases h1 : (id == "sum") = true
  · rw [if_pos h1] at h
    obtain rfl := eq_of_beq h1
    obtain ⟨ns, hns, rfl⟩ := Option.map_eq_some_iff.mp h
    exact call_sum hns
  rw [if_neg h1] at h
  by_cases h2 : (id == "len") = true
  · rw [if_pos h2] at h
    obtain rfl := eq_of_beq h2
    obtain ⟨hl, rfl⟩ := if_some h
    exact call_len (of_decide_eq_true hl)
  rw [if_neg h2] at h
  by_cases h3 : (id == "min") = true
  · rw [if_pos h3] at h
    obtain rfl := eq_of_beq h3
    obtain ⟨ns, hns, h⟩ := Option.bind_eq_some_iff.mp h
    obtain ⟨hne, rfl⟩ := if_none' h
    exact call_minL hns hne
  rw [if_neg h3] at h
  by_cases h4 : (id == "max") = true
  · rw [if_pos h4] at h
    obtain rfl := eq_of_beq h4
    obtain ⟨ns, hns, h⟩ := Option.bind_eq_some_iff.mp h
    obtain ⟨hne, rfl⟩ := if_none' h
    exact call_maxL hns hne
  rw [if_neg h4] at h
  exact no_some h
theorem callA_sound {id : String} {x : At} {d : D} (h : callA id x = some d) : OpL W k (fun vs => call (.builtin id) vs) [.at x] d := by
  cases x with
  | flt x =>
    obtain ⟨hid, rfl⟩ := if_some h
    obtain rfl := eq_of_beq hid
    intro A s vs Q rm ok r q
    obtain ⟨v, rfl, t, rfl⟩ := reps1 r
    exact Flt.call_abs_float (q _ _ .toks ⟨_, rfl⟩)
  | int i =>
    obtain ⟨hc, rfl⟩ := if_some h
    obtain ⟨hid, hs⟩ := Bool.and_eq_true_iff.mp hc
    obtain rfl := eq_of_beq hid
    intro A s vs Q rm ok r q
    obtain ⟨v, rfl, t, rfl⟩ := reps1 r
    exact P.hex_of_int (q _ _ .toks ⟨_, rfl⟩) (baseText_under (by decide) (by decide) (by have := of_decide_eq_true hs; omega))
  | _ => exact no_some h
theorem callB2_sound {id : String} {d1 d2 d : D} (h : callB2 id d1 d2 = some d) : OpL W k (fun vs => call (.builtin id) vs) [d1, d2] d := by
  obtain ⟨a, ha, h⟩ := Option.bind_eq_some_iff.mp h
  obtain ⟨b, hb, h⟩ := Option.bind_eq_some_iff.mp h
  obtain rfl := asInt_eq ha
  obtain rfl := asInt_eq hb
  obtain ⟨hc, rfl⟩ := if_some h
  obtain ⟨hc, hs⟩ := Bool.and_eq_true_iff.mp hc
  obtain ⟨hid, hb⟩ := Bool.and_eq_true_iff.mp hc
  obtain rfl := eq_of_beq hid
  intro A s vs Q rm ok r q
  obtain ⟨v, u, rfl, ⟨t, rfl⟩, ⟨t', rfl⟩⟩ := reps2 r
  exact divmod_int (bne_iff_ne.mp hb) (q _ _ (Ext.push (s := s)) ⟨_, [_, _], 0, rfl, ok.new rfl, ⟨⟨_, rfl⟩, ⟨_, rfl⟩, trivial⟩⟩) (.inl (noPylong_small hs))
theorem callB3_sound {id : String} {d1 d2 d3 d : D} (h : callB3 id d1 d2 d3 = some d) : OpL W k (fun vs => call (.builtin id) vs) [d1, d2, d3] d := by
  obtain ⟨a, ha, h⟩ := Option.bind_eq_some_iff.mp h
  obtain ⟨b, hb, h⟩ := Option.bind_eq_some_iff.mp h
  obtain ⟨c, hc, h⟩ := Option.bind_eq_some_iff.mp h
  obtain rfl := asInt_eq ha
  obtain rfl := asInt_eq hb
  obtain rfl := asInt_eq hc
  by_cases h1 : (id == "max") = true
  · obtain rfl : D.int (max3 a b c) = d := Option.some.inj ((if_pos h1).symm.trans h)
    obtain rfl := eq_of_beq h1
    intro A s vs Q rm ok r q
    obtain ⟨v, u, x, rfl, ⟨t, rfl⟩, ⟨t', rfl⟩, ⟨t'', rfl⟩⟩ := reps3 r
    refine max_three_ints rm.1 fun h' tk hk => q _ _ (.of_keep hk) ?_
    unfold max3
    split <;> split <;> exact ⟨_, rfl⟩
  · obtain ⟨h2, rfl⟩ := if_some ((if_neg h1).symm.trans h)
    obtain rfl := eq_of_beq h2
    intro A s vs Q rm ok r q
    obtain ⟨v, u, x, rfl, ⟨t, rfl⟩, ⟨t', rfl⟩, ⟨t'', rfl⟩⟩ := reps3 r
    refine min_three_ints rm.1 fun h' tk hk => q _ _ (.of_keep hk) ?_
    unfold min3
    split <;> split <;> exact ⟨_, rfl⟩
theorem callB_sound {id : String} {ds : List D} {d : D} (h : callB id ds = some d) : OpL W k (fun vs => call (.builtin id) vs) ds d := by
  match ds, h with
  | [], h => exact no_some h
  | [d1], h =>
    cases d1 with
    | lst as => exact callL_sound h
    | «at» x => exact callA_sound h
    | _ => exact no_some h
  | [d1, d2], h => exact callB2_sound h
  | [d1, d2, d3], h => exact callB3_sound h
  | _ :: _ :: _ :: _ :: _, h => exact no_some h
theorem callT1_sound {id : String} {e d : D} (h : callT1 id e = some d) : OpL W k (fun vs => call (.type id) vs) [e] d := by
  cases e with
  | «at» x =>
    cases x with
    | int a =>
      obtain ⟨hid, rfl⟩ := if_some h
      obtain rfl := eq_of_beq hid
      intro A s vs Q rm ok r q
      obtain ⟨v, rfl, t, rfl⟩ := reps1 r
      exact call_range_1 (q _ _ (Ext.push (s := s)) ⟨_, _, _, _, rfl, ok.new rfl⟩)
    | flt x =>
      by_cases hid : (id == "int") = true
      · have h' : truncD x = some d := (if_pos hid).symm.trans h
        clear h
        obtain rfl := eq_of_beq hid
        intro A s vs Q rm ok r q
        obtain ⟨v, rfl, t, rfl⟩ := reps1 r
        unfold truncD at h'
        split at h'
        · rename_i hd; cases h'; exact call_int_float hd (q _ _ .toks ⟨_, rfl⟩)
        · cases h'
      · exact no_some ((if_neg hid).symm.trans h)
    | _ => exact no_some h
  | _ => exact no_some h
theorem callT_sound {id : String} {ds : List D} {d : D} (h : callT id ds = some d) : OpL W k (fun vs => call (.type id) vs) ds d := by
  match ds, h with
  | [], h => exact no_some h
  | [d1], h => exact callT1_sound h
  | [d1, d2], h =>
    obtain ⟨a, ha, h⟩ := Option.bind_eq_some_iff.mp h
    obtain ⟨b, hb, h⟩ := Option.bind_eq_some_iff.mp h
    obtain rfl := asInt_eq ha
    obtain rfl := asInt_eq hb
    obtain ⟨hid, rfl⟩ := if_some h
    obtain rfl := eq_of_beq hid
    intro A s vs Q rm ok r q
    obtain ⟨v, u, rfl, ⟨t, rfl⟩, ⟨t', rfl⟩⟩ := reps2 r
    exact call_range_2 (q _ _ (Ext.push (s := s)) ⟨_, _, _, _, rfl, ok.new rfl⟩)
  | _ :: _ :: _ :: _, h => exact no_some h
end
end Mine
end
section
open PySem PySem.W PySem.Calls PyProof.Rows PySem.Spec PySem.SeqAt PySem.SeqRoads2 PySem.MeetsSeq
open Builtin Builtin.Str
set_option Elab.async false
set_option maxRecDepth 100000
set_option linter.unusedVariables false
namespace Mine
noncomputable def flagName (i : Int) (dflt : Str) : Str := match lookup (.int i) FT with
  | some (.str x) => x
  | _ => dflt
noncomputable def joinFits (x : Str) (ys : List Str) : Bool := decide ((ys.map (·.length)).sum + ys.length * x.length ≤ 16777216)
noncomputable def asStr (d : D) : Option Str := match d with
  | .at x => atStr x
  | _ => none
theorem asStr_eq {d : D} {i : Str} (h : asStr d = some i) : d = .str i := by
  cases d with
  | «at» x => exact congrArg D.at (atStr_eq h)
  | _ => exact no_some h
noncomputable def methI (name : Str) (i : Int) (ds : List D) : Option D := match ds with
  | [] => if name == Str.ofString "bit_length" then some (.int (Builtin.Int.intBits i)) else none
  | _ => none
noncomputable def methS (name : Str) (x : Str) (ds : List D) : Option D := match ds with
  | [d] => (match d with
    | .at y => (atStr y).bind fun y => if (name == Str.ofString "split" && decide (x.length ≤ 100000) && y.length != 0 && decide ((Txt.split x y).length ≤ 100000)) = true then some (.lst ((Txt.split x y).map .str)) else none
    | .lst as => (strsOf as).bind fun ys => if (name == Str.ofString "join" && joinFits x ys) = true then some (.str (Txt.join x ys)) else none
    | _ => none)
  | _ => none
noncomputable def methL (name : Str) (as : List At) (ds : List D) : Option D := match ds with
  | [d] => (asInt d).bind fun n => (intsOf as).bind fun ns => if name == Str.ofString "count" then some (.int (ns.count n : Nat)) else none
  | _ => none
noncomputable def methF (name : Str) (ds : List D) : Option D := match ds with
  | [d, e] => (asInt d).bind fun i => (asStr e).bind fun x => if name == Str.ofString "get" then some (.str (flagName i x)) else none
  | _ => none
noncomputable def methD (name : Str) (a : D) (ds : List D) : Option D := match a with
  | .at x => (match x with
    | .int i => methI name i ds
    | .str x => methS name x ds
    | _ => none)
  | .lst as => methL name as ds
  | .flags => methF name ds
  | _ => none
section
variable {W : Wd} {k : Nat} {env : Env} {ρ : Rho}
/-- a method, and what it answers -/
noncomputable def Meth (W : Wd) (k : Nat) (name : Str) (a : D) (ds : List D) (d : D) : Prop := ∃ id, GetM W name a id ∧ OpL W k (fun vs => call (.builtin id) vs) (a :: ds) d
theorem areps_strs : ∀ (ys : List Str) (t : Nat), AReps (strsFrom t ys) (ys.map .str)
  | [], _ => trivial
  | y :: ys, t => ⟨⟨t, rfl⟩, areps_strs ys (t + 1)⟩
theorem look_str : ∀ (L : List (PyData × PyData)), (∀ p ∈ L, ∃ y, p.2 = .str y) → ∀ (d : PyData), lookup d L = none ∨ ∃ y, lookup d L = some (.str y)
  | [], _, d => .inl rfl
  | (a, b) :: r, h, d => by
    unfold Spec.lookup
    split
    · obtain ⟨y, hy⟩ := h (a, b) (.head _)
      exact .inr ⟨y, by rw [← hy]⟩
    · exact look_str r (fun p hp => h p (.tail _ hp)) d
theorem FT_strs : ∀ p ∈ FT, ∃ y, p.2 = .str y := by
  intro p hp
  simp only [FT, List.mem_cons, List.not_mem_nil, or_false] at hp
  rcases hp with rfl | rfl | rfl | rfl | rfl | rfl | rfl | rfl | rfl | rfl <;> exact ⟨_, rfl⟩
theorem flat_str {v : Value} {x : Str} (h : PyProof.V.Flat v (.str x)) : ARep v (.str x) := by
  have := h default
  cases this
  exact ⟨_, rfl⟩
theorem split_call {x y : Str} (hx : x.length ≤ 100000) (hy : y.length ≠ 0) (hl : (Txt.split x y).length ≤ 100000) : OpL W k (fun vs => call (.builtin "str.split") vs) [.str x, .str y] (.lst ((Txt.split x y).map .str)) := fun A s vs Q rm ok r q => by
  obtain ⟨v, u, rfl, ⟨t, rfl⟩, ⟨t', rfl⟩⟩ := reps2 r
  have hy' : (y.length == 0) = false := by simpa using hy
  cases h1 : (decide (x.length < y.length) || decide (strKind x < strKind y))
  · cases hf : (occurrences x y 0 x.length (x.length + 1)).isEmpty
    · have e : Txt.split x y = partsBetween x (occurrences x y 0 x.length (x.length + 1)) y.length := (if_neg (ne_true_of_eq_false h1)).trans (if_neg (ne_true_of_eq_false hf))
      rw [e] at hl q
      refine call_meets F.slot_str_split (typeIs_str _ _ _) F.entry_str_split (F.args_str_split_2 _ _) (meets_str_split_sep x y t t' h1 hy' hf (sizeLine_big hx) (sizeLine_big hl)) ?_
      exact q _ _ (Ext.push (s := s)) ⟨_, _, 0, rfl, ok.new rfl, areps_strs _ _⟩
    · have e : Txt.split x y = [x] := (if_neg (ne_true_of_eq_false h1)).trans (if_pos hf)
      rw [e] at q
      exact call_meets F.slot_str_split (typeIs_str _ _ _) F.entry_str_split (F.args_str_split_2 _ _) (meets_str_split_not_found x y t t' h1 hy' hf) (q _ _ .pushT ⟨_, [_], 0, rfl, ok.new rfl, ⟨⟨_, rfl⟩, trivial⟩⟩)
  · have e : Txt.split x y = [x] := if_pos h1
    rw [e] at q
    exact call_meets F.slot_str_split (typeIs_str _ _ _) F.entry_str_split (F.args_str_split_2 _ _) (meets_str_split_cannot_occur x y t t' h1) (q _ _ .pushT ⟨_, [_], 0, rfl, ok.new rfl, ⟨⟨_, rfl⟩, trivial⟩⟩)

theorem methI_sound {name : Str} {i : Int} {d : D} {ds : List D} (h : methI name i ds = some d) : Meth W k name (.int i) ds d := by
  match ds, h with
  | [], h =>
    obtain ⟨hn, rfl⟩ := if_some h
    obtain rfl := eq_of_beq hn
    refine ⟨"int.bit_length", fun A s v pl Q ok r q => ?_, fun A s vs Q rm ok r q => ?_⟩
    · obtain ⟨t, rfl⟩ : ∃ t, v = _ := r
      exact getMethod_int_bit_length q
    · obtain ⟨v, rfl, t, rfl⟩ := reps1 r
      exact call_int_bit_length (q _ _ .toks ⟨_, rfl⟩)
  | _ :: _, h => exact no_some h
theorem split_sound {name x y : Str} {d : D} (h : (if (name == Str.ofString "split" && decide (x.length ≤ 100000) && y.length != 0 && decide ((Txt.split x y).length ≤ 100000)) = true then some (D.lst ((Txt.split x y).map .str)) else none) = some d) : Meth W k name (.str x) [.str y] d := by
  obtain ⟨hc, rfl⟩ := if_some h
  obtain ⟨hc, h4⟩ := Bool.and_eq_true_iff.mp hc
  obtain ⟨hc, h3⟩ := Bool.and_eq_true_iff.mp hc
  obtain ⟨h1, h2⟩ := Bool.and_eq_true_iff.mp hc
  obtain rfl := eq_of_beq h1
  refine ⟨"str.split", fun A s v pl Q ok r q => ?_, split_call (of_decide_eq_true h2) (bne_iff_ne.mp h3) (of_decide_eq_true h4)⟩
  obtain ⟨t, rfl⟩ : ∃ t, v = _ := r
  exact GM.split q
theorem join_sound {name x : Str} {as : List At} {ys : List Str} {d : D} (hys : strsOf as = some ys) (h : (if (name == Str.ofString "join" && joinFits x ys) = true then some (D.str (Txt.join x ys)) else none) = some d) : Meth W k name (.str x) [.lst as] d := by
  obtain ⟨hc, rfl⟩ := if_some h
  obtain ⟨h1, h2⟩ := Bool.and_eq_true_iff.mp hc
  obtain rfl := eq_of_beq h1
  refine ⟨"str.join", fun A s v pl Q ok r q => ?_, fun A s vs Q rm ok r q => ?_⟩
  · obtain ⟨t, rfl⟩ : ∃ t, v = _ := r
    exact GM.join q
  · obtain ⟨v, u, rfl, ⟨t, rfl⟩, p, vs, n, rfl, hp, rp⟩ := reps2 r
    exact join_list (isList_of (of_gh hp)) (strsAre_of rp hys) (of_decide_eq_true h2) fun t' k' => q _ _ .toks ⟨_, rfl⟩
theorem methS_sound {name x : Str} {d : D} {ds : List D} (h : methS name x ds = some d) : Meth W k name (.str x) ds d := by
  match ds, h with
  | [], h => exact no_some h
  | [e], h =>
    cases e with
    | «at» y =>
      obtain ⟨y, hy, h⟩ := Option.bind_eq_some_iff.mp h
      obtain rfl := atStr_eq hy
      exact split_sound h
    | lst as =>
      obtain ⟨ys, hys, h⟩ := Option.bind_eq_some_iff.mp h
      exact join_sound hys h
    | _ => exact no_some h
  | _ :: _ :: _, h => exact no_some h
theorem methL_sound {name : Str} {as : List At} {d : D} {ds : List D} (h : methL name as ds = some d) : Meth W k name (.lst as) ds d := by
  match ds, h with
  | [], h => exact no_some h
  | [e], h =>
    obtain ⟨n, hn, h'⟩ := Option.bind_eq_some_iff.mp h
    obtain ⟨ns, hns, h''⟩ := Option.bind_eq_some_iff.mp h'
    obtain ⟨h1, rfl⟩ := if_some h''
    clear h h' h''
    obtain rfl := asInt_eq hn
    obtain rfl := eq_of_beq h1
    refine ⟨"list.count", fun A s v pl Q ok r q => ?_, fun A s vs Q rm ok r q => ?_⟩
    · obtain ⟨p, vs, n, rfl, hp, rp⟩ := r
      exact getMethod_builtin (isList_of (of_gh hp)).typeIs PySem.F.plainAttrs_list F.slot_list_count F.type_list_count (fun a e => by cases e; exact ⟨_, of_gh hp, rfl⟩) q
    · obtain ⟨v, u, rfl, ⟨p, vs, n, rfl, hp, rp⟩, ⟨t, rfl⟩⟩ := reps2 r
      exact count_list_ints (isList_of (of_gh hp)) (intsAre_of rp hns) (q _ _ .toks ⟨_, rfl⟩)
  | _ :: _ :: _, h => exact no_some h
theorem methF_sound (FO : FlagsOK W) {name : Str} {d : D} {ds : List D} (h : methF name ds = some d) : Meth W k name .flags ds d := by
  match ds, h with
  | [], h => exact no_some h
  | [_], h => exact no_some h
  | [e, e'], h =>
    obtain ⟨i, hi, h'⟩ := Option.bind_eq_some_iff.mp h
    obtain ⟨x, hx, h''⟩ := Option.bind_eq_some_iff.mp h'
    obtain ⟨h1, rfl⟩ := if_some h''
    clear h h' h''
    obtain rfl := asInt_eq hi
    obtain rfl := asStr_eq hx
    obtain rfl := eq_of_beq h1
    refine ⟨"dict.get", fun A s v pl Q ok r q => ?_, fun A s vs Q rm ok r q => ?_⟩
    · obtain rfl : v = .ref flagsAt := r
      exact getMethod_intTab_get (TabAt.keep FO ok.all) q
    · obtain ⟨v, u, x, rfl, rv, ⟨t, rfl⟩, ⟨t', rfl⟩⟩ := reps3 r
      obtain rfl : v = .ref flagsAt := rv
      refine call_get2_intTab (TabAt.keep FO ok.all) (PyProof.V.Flat.str _ _) fun v hv => q _ _ .toks ?_
      unfold flagName
      rcases look_str FT FT_strs (.int _) with e | ⟨y, e⟩
      · rw [e] at hv ⊢; exact flat_str hv
      · rw [e] at hv ⊢; exact flat_str hv
  | _ :: _ :: _ :: _, h => exact no_some h
theorem meth_sound (FO : FlagsOK W) {name : Str} {a d : D} {ds : List D} (h : methD name a ds = some d) : Meth W k name a ds d := by
  cases a with
  | «at» x =>
    cases x with
    | int i => exact methI_sound h
    | str x => exact methS_sound h
    | _ => exact no_some h
  | lst as => exact methL_sound h
  | flags => exact methF_sound FO h
  | _ => exact no_some h
end
end Mine
end
section
open PySem PySem.W PySem.Calls PyProof.Rows PySem.Spec PySem.SeqAt PySem.SeqRoads2 PySem.MeetsSeq
set_option Elab.async false
set_option maxRecDepth 100000
set_option linter.unusedVariables false
namespace Mine
noncomputable def pickA (as : List At) (lo hi st : Option Int) : List At :=
  (sliceRange (sliceBounds lo hi st as.length).1 (sliceBounds lo hi st as.length).2.1 (sliceBounds lo hi st as.length).2.2).filterMap (as[·]?)
section
variable {W : Wd} {k : Nat} {env : Env} {ρ : Rho}
theorem areps_pick {vs : List Value} {as : List At} (r : AReps vs as) : ∀ l : List Nat, AReps (l.filterMap (vs[·]?)) (l.filterMap (as[·]?))
  | [] => trivial
  | i :: l => by
    cases e : as[i]? with
    | none =>
      have : vs[i]? = none := by
        cases q : vs[i]? with
        | none => rfl
        | some v => obtain ⟨a, ha, _⟩ := r.at q; rw [ha] at e; cases e
      rw [List.filterMap_cons_none e, List.filterMap_cons_none this]
      exact areps_pick r l
    | some a =>
      obtain ⟨v, hv, rv⟩ := r.get e
      rw [List.filterMap_cons_some e, List.filterMap_cons_some hv]
      exact ⟨rv, areps_pick r l⟩
inductive PartTo (W : Wd) (k : Nat) (env : Env) (ρ : Rho) : Option Expr → Option Int → Prop
  | none : PartTo W k env ρ none none
  | some {e : Expr} {i : Int} : EvTo W k env ρ e (.int i) → PartTo W k env ρ (some e) (some i)
theorem part_wp {e : Option Expr} {i : Option Int} (h : PartTo W k env ρ e i) : ∀ A s (Q : Value → Shared → Prop), Room k A → OK W s → EnvOK env → Rd env (gh s.heap) ρ → (∀ v s', Ext s s' → IsPart v i → Q v s') → wpF W A (valueOrNone (evalOpt e env)) Q s := by
  intro A s Q rm ok E R q
  cases h with
  | none => exact wpAny_pure (q _ s (.refl _ _) .none)
  | some h =>
    refine h A s Q rm ok E R fun v s' x r => ?_
    obtain ⟨t, rfl⟩ : ∃ t, v = _ := r
    exact q _ s' x (.int _ _)
theorem ev_slice {value : Expr} {lo hi st : Option Expr} {p pos : Pos} {as : List At} {l u c : Option Int} (hv : EvTo W k env ρ value (.lst as)) (hl : PartTo W k env ρ lo l) (hu : PartTo W k env ρ hi u) (hc : PartTo W k env ρ st c) (h0 : c ≠ some 0)
    (hsz : as.length ≤ 100000) : EvTo W k env ρ (.Subscript value (.Slice lo hi st p) pos) (.lst (pickA as l u c)) := fun A s Q rm ok E R q => by
  refine Subscript_ (hv A s _ rm ok E R fun va s₁ x₁ r₁ => ?_)
  have ok₁ := ok.ext x₁
  show wpF W A (do
    let l ← valueOrNone (evalOpt lo env)
    let u ← holding [l] (valueOrNone (evalOpt hi env))
    let s ← holding [l, u] (valueOrNone (evalOpt st env))
    newFields "slice" [l, u, s]) _ s₁
  refine wpAny_bind (part_wp hl A s₁ _ rm ok₁ E (R.keeps x₁.kp') fun vl s₂ x₂ p₂ => wpAny_bind (wpAny_holding ?_))
  have ok₂ := ok₁.ext x₂
  refine part_wp hu A s₂ _ rm ok₂ E ((R.keeps x₁.kp').keeps x₂.kp') fun vu s₃ x₃ p₃ => wpAny_bind (wpAny_holding ?_)
  have ok₃ := ok₂.ext x₃
  refine part_wp hc A s₃ _ rm ok₃ E (((R.keeps x₁.kp').keeps x₂.kp').keeps x₃.kp') fun vc s₄ x₄ p₄ => ?_
  have ok₄ := ok₃.ext x₄
  refine wpAny_newObj_type ?_ (by size_fits)
  obtain ⟨a, vs, n, rfl, hp, rp⟩ := r₁
  have hp4 : s₄.heap.get? a = some { cls := .type "list", data := .seq vs.toArray n } := of_gh (x₄.kp' _ _ (x₃.kp' _ _ (x₂.kp' _ _ hp)))
  have hlist := isList_of (Heap.get?_push_of_some { cls := .type "slice", data := .fields #[vl, vu, vc] } hp4)
  have ok5 : OK W { s₄ with heap := s₄.heap.push { cls := .type "slice", data := .fields #[vl, vu, vc] } } := ok₄.ext .pushT
  refine tail_any (T := "list") (id := "list.__getitem__") (ops := match st with | none => [.ref s₄.heap.objs.size, .ref a] | some _ => [.ref a, .ref s₄.heap.objs.size]) ⟨_, Heap.get?_push_of_some _ hp4, rfl⟩ list_getitem_lookup (wpAny_getItem_list_slice hlist (Heap.IsSliceOf.new ..) p₂ p₃ p₄ h0 ?_ ?_) ?_
  · refine q _ _ (x₁.trans (x₂.trans (x₃.trans (x₄.trans (Ext.pushT.trans .pushT))))) ⟨_, _, 0, rfl, ok5.new rfl, ?_⟩
    have e : vs.toArray.size = as.length := by rw [List.size_toArray, rp.length]
    have := areps_pick rp (sliceRange (sliceBounds l u c as.length).1 (sliceBounds l u c as.length).2.1 (sliceBounds l u c as.length).2.2)
    unfold pickA
    rw [← e] at this ⊢
    simpa using this
  · rw [List.size_toArray, rp.length]; exact sizeLine_big hsz
  · cases st <;> rfl

/-- truth -/
noncomputable def truthA (x : At) : Option Bool := match x with
  | .bool b => some b
  | .int i => some (i != 0)
  | _ => none
noncomputable def truthD (a : D) : Option Bool := match a with
  | .at x => truthA x
  | .lst as => if decide (as.length ≤ 100000) = true then some (!as.isEmpty) else none
  | _ => none
theorem truth_sound {a : D} {b : Bool} (h : truthD a = some b) : OpB W k truthy a b := by
  cases a with
  | «at» x =>
    cases x with
    | bool c => exact some_to (P := fun b => OpB W k truthy (.bool c) b) h truthy_bool
    | int i =>
      refine some_to (P := fun b => OpB W k truthy (.int i) b) h fun A s v Q rm ok r q => ?_
      obtain ⟨t, rfl⟩ : ∃ t, v = _ := r
      exact truthy_int (q s (.refl _ _))
    | _ => exact no_some h
  | lst as =>
    obtain ⟨hl, rfl⟩ := if_some h
    have hl := of_decide_eq_true hl
    intro A s v Q rm ok r q
    obtain ⟨p, vs, n, rfl, hp, rp⟩ := r
    have e := rp.length
    refine wpAny_truthy_list (isList_of (of_gh hp)) (by rw [List.size_toArray, e]; omega) ?_
    have e2 : vs.toArray.isEmpty = as.isEmpty := by
      cases vs with
      | nil => cases as with
        | nil => rfl
        | cons => exact rp.elim
      | cons => cases as with
        | nil => exact rp.elim
        | cons => rfl
    rw [e2]
    exact q _ .toks
  | _ => exact no_some h
end
end Mine
end
section
open PySem PySem.W PySem.Calls PyProof.Rows PySem.Spec PySem.SeqAt PySem.SeqRoads2 PySem.MeetsSeq
set_option Elab.async false
set_option maxRecDepth 100000
set_option linter.unusedVariables false
namespace Mine
noncomputable def innerOf (names : List (Str × NameKind)) (ρ : Rho) : Rho := ρ.filter fun p => names.lookup p.1 == some .free
theorem lookup_filter {f : Str → Bool} {x : Str} {d : D} : ∀ {ρ : Rho}, (ρ.filter fun p => f p.1).lookup x = some d → f x = true ∧ ρ.lookup x = some d
  | [], h => by simp at h
  | (y, e) :: r, h => by
    rw [List.filter_cons] at h
    by_cases hy : x = y
    · subst hy
      cases hf : f x with
      | true => rw [hf] at h; simp only [if_true, List.lookup_cons, beq_self_eq_true] at h; exact ⟨rfl, by simpa using h⟩
      | false =>
        rw [hf] at h
        simp only [Bool.false_eq_true, if_false] at h
        have := (lookup_filter h).1
        rw [hf] at this; cases this
    · have hb : (x == y) = false := by simpa using hy
      have h' : (r.filter fun p => f p.1).lookup x = some d := by
        cases hf : f y with
        | true => rw [hf] at h; simpa [List.lookup_cons, hb] using h
        | false => rw [hf] at h; simpa using h
      obtain ⟨h1, h2⟩ := lookup_filter h'
      exact ⟨h1, by simp [List.lookup_cons, hb, h2]⟩
theorem inner_lookup {names : List (Str × NameKind)} {ρ : Rho} {x : Str} {d : D} (h : (innerOf names ρ).lookup x = some d) : names.lookup x = some .free ∧ ρ.lookup x = some d := by
  obtain ⟨h1, h2⟩ := lookup_filter (f := fun y => names.lookup y == some .free) h
  exact ⟨by simpa using h1, h2⟩
theorem relabel_free {env : Env} : ∀ {names : List (Str × NameKind)} {x : Str}, names.lookup x = some .free →
    (names.map fun (n, k) => if (k == NameKind.free && env.scope.kind == .function && env.kindOf n == some .cell) then (n, NameKind.cell) else (n, k)).lookup x = some .cell ∨
    (names.map fun (n, k) => if (k == NameKind.free && env.scope.kind == .function && env.kindOf n == some .cell) then (n, NameKind.cell) else (n, k)).lookup x = some .free
  | [], _, h => by simp at h
  | (n, k) :: r, x, h => by
    rw [List.map_cons]
    by_cases hx : x = n
    · subst hx
      simp only [List.lookup_cons, beq_self_eq_true, Option.some.injEq] at h
      subst h
      dsimp only
      split
      · left; simp
      · right; simp
    · have hb : (x == n) = false := by simpa using hx
      have h' : r.lookup x = some .free := by simpa [List.lookup_cons, hb] using h
      dsimp only
      split <;> simpa [List.lookup_cons, hb] using relabel_free h'
theorem relabel_global {env : Env} : ∀ {names : List (Str × NameKind)} {x : Str}, names.lookup x = some .globalImplicit →
    (names.map fun (n, k) => if (k == NameKind.free && env.scope.kind == .function && env.kindOf n == some .cell) then (n, NameKind.cell) else (n, k)).lookup x = some .globalImplicit
  | [], _, h => by simp at h
  | (n, k) :: r, x, h => by
    rw [List.map_cons]
    by_cases hx : x = n
    · subst hx
      simp only [List.lookup_cons, beq_self_eq_true, Option.some.injEq] at h
      subst h
      simp
    · have hb : (x == n) = false := by simpa using hx
      have h' : r.lookup x = some .globalImplicit := by simpa [List.lookup_cons, hb] using h
      dsimp only
      split <;> simpa [List.lookup_cons, hb] using relabel_global h'

section
variable (W : Wd) (k : Nat) (scope : Scope) (cl : List (Str × Addr)) (env : Env) (x : Str) (ifs : List Expr) (elt : Expr) (ρ' : Rho)
noncomputable def TestsTo (a : At) (b : Bool) : Prop := match ifs with
  | [] => b = true
  | [c] => ∀ C, TsTo W k (compEnvC scope cl C env) ((x, .at a) :: ρ') c b
  | _ => False
inductive CompAll : List At → List At → Prop
  | nil : CompAll [] []
  | skip {a : At} {as bs : List At} : TestsTo W k scope cl env x ifs ρ' a false → CompAll as bs → CompAll (a :: as) bs
  | take {a b : At} {as bs : List At} : TestsTo W k scope cl env x ifs ρ' a true → (∀ C, EvTo W k (compEnvC scope cl C env) ((x, .at a) :: ρ') elt (.at b)) → CompAll as bs → CompAll (a :: as) (b :: bs)
end

structure CompOK (scope : Scope) (cl : List (Str × Addr)) (env : Env) (x : Str) : Prop where
  kind : scope.kind = .function
  cell : ∀ y ∈ scope.names, y.2 ≠ .cell
  names : ∀ y ∈ scope.names, y.2 = .local → scope.names.lookup y.1 = some .local
  loc : scope.names.lookup x = some .local
  ok : okName x = true
  clos : closureFor scope env = pure cl
  free : ∀ y, scope.names.lookup y = some .free → (env.kindOf y = some .cell ∨ env.kindOf y = some .free) ∧ ∀ c, env.cells.lookup y = some c → cl.lookup y = some c

section
variable {W : Wd} {k : Nat} {scope : Scope} {cl : List (Str × Addr)} {env : Env} {x : Str} {ifs : List Expr} {elt : Expr} {ρ : Rho}
theorem CompOK.rd {C : Addr} {h : Heap} {m : Str → Option Value} {v : Value} {a : At} (c : CompOK scope cl env x) (R : Rd env h ρ) (hn : h.Ns C m) (hm : m x = some v) (rv : ARep v a) :
    Rd (compEnvC scope cl C env) h ((x, .at a) :: innerOf scope.names ρ) := by
  intro y d hy
  rw [List.lookup_cons] at hy
  cases hb : y == x with
  | true =>
    rw [hb] at hy
    cases hy
    obtain rfl := eq_of_beq hb
    exact ⟨c.ok, v, .inl ⟨lookup_relabel_local c.loc, m, hn, hm⟩, rv⟩
  | false =>
    rw [hb] at hy
    obtain ⟨hf, hr⟩ := inner_lookup hy
    obtain ⟨hk, u, hu, ru⟩ := R y d hr
    refine ⟨hk, u, ?_, ru⟩
    obtain ⟨hkind, hcl⟩ := c.free y hf
    rcases hu with ⟨hl, _⟩ | ⟨_, ce, hce, hcell⟩
    · rcases hkind with q | q <;> (rw [q] at hl; cases hl)
    · exact .inr ⟨relabel_free hf, ce, hcl ce hce, hcell⟩
theorem CompOK.envOK {C : Addr} (c : CompOK scope cl env x) (E : EnvOK env) : EnvOK (compEnvC scope cl C env) := ⟨c.kind, E.glob, E.bi⟩

theorem wp_false {α : Type} {A : Around} {t : Sem α} {Q : α → Shared → Prop} {E : Value → Shared → Prop} {s : Shared} (h : wpF W A t Q s) : wpAny (model W.prog W.w) A t Q E s := wpAny_mono h (fun _ _ q => q) fun _ _ f => f.elim

theorem tests_wp {C : Addr} {ρ' : Rho} {a : At} {b : Bool} (h : TestsTo W k scope cl env x ifs ρ' a b) {A : Around} {s : Shared} {Q : Bool → Shared → Prop} (rm : Room k A) (ok : OK W s) (E : EnvOK (compEnvC scope cl C env)) (R : Rd (compEnvC scope cl C env) (gh s.heap) ((x, .at a) :: ρ')) (q : RetB s b Q) :
    wpF W A (forIn ifs true fun c r => if r = true then do let ok ← isTrue c (compEnvC scope cl C env) (eval c (compEnvC scope cl C env)); pure (ForInStep.yield ok) else pure (ForInStep.yield r)) Q s := by
  match ifs, h with
  | [], h =>
    obtain rfl : b = true := h
    rw [List.forIn_nil]
    exact wpAny_pure (q s (.refl _ _))
  | [c], h =>
    rw [List.forIn_cons]
    simp only [if_true]
    refine wpAny_bind (wpAny_bind (h C A s _ rm ok E R fun s₁ x₁ => wpAny_pure ?_))
    dsimp only
    rw [List.forIn_nil]
    exact wpAny_pure (q s₁ x₁)

theorem ns_gh {h : Heap} {a : Addr} {m : Str → Option Value} (x : h.Ns a m) (ha : a ∉ tabs) : (gh h).Ns a m := let ⟨o, es, ep, e, r⟩ := x; ⟨o, es, ep, gh_get e ha, r⟩
/-- between two turns of a comprehension -/
structure LInv (W : Wd) (s s₅ : Shared) (mu fp : List Addr) (St : Nat → Heap → Prop) (C Dl : Addr) (i : Nat) (bd : List At) (s' : Shared) : Prop where
  sx : SExt mu s₅ s'
  ti : TI mu s'.heap
  al : ∀ b ∈ mu, (s'.heap.get? b).isSome
  st : St i s'.heap
  ns : ∃ m, s'.heap.Ns C m
  acc : ∃ ys n, s'.heap.get? Dl = some { cls := .type "list", data := .seq (List.toArray ys) n } ∧ AReps ys bd
structure LFix (s s₅ : Shared) (mu fp wr : List Addr) (St : Nat → Heap → Prop) (C Dl : Addr) : Prop where
  frame : ∀ i h h', St i h → (∀ b ∈ fp, ∀ o, h.get? b = some o → h'.get? b = some o) → St i h'
  live : ∀ i h, St i h → ∀ b ∈ wr, (h.get? b).isSome
  mue : mu = C :: Dl :: wr
  ext : Ext s s₅
  ti : TI mu s₅.heap
  al : ∀ b ∈ mu, (s₅.heap.get? b).isSome
  fr : ∀ b ∈ mu, s.heap.get? b = none
  mt : ∀ b ∈ mu, b ∉ tabs
  fpt : ∀ b ∈ fp, b ∉ tabs ∧ b ≠ C ∧ b ≠ Dl
  cd : Dl ≠ C
  cw : C ∉ wr
  dw : Dl ∉ wr
section
variable {A : Around} {s s₂ s₅ s' s'' : Shared} {mu fp wr : List Addr} {i j : Nat} {St : Nat → Heap → Prop} {C Dl : Addr} {bd : List At}
theorem LFix.out (f : LFix s s₅ mu fp wr St C Dl) (v : LInv W s s₅ mu fp St C Dl i bd s') : Ext s s' := f.ext.mut f.ti f.fr v.sx
theorem LFix.ct (f : LFix s s₅ mu fp wr St C Dl) : C ∉ tabs := f.mt C (by rw [f.mue]; exact .head _)
theorem LFix.dt (f : LFix s s₅ mu fp wr St C Dl) : Dl ∉ tabs := f.mt Dl (by rw [f.mue]; exact .tail _ (.head _))
/-- a step that leaves the accumulator and the iterator be -/
theorem LFix.step (f : LFix s s₅ mu fp wr St C Dl) (v : LInv W s s₅ mu fp St C Dl i bd s') (e : Ext s' s'') : LInv W s s₅ mu fp St C Dl i bd s'' := by
  obtain ⟨m, hn⟩ := v.ns
  obtain ⟨ys, n0, hD, rp⟩ := v.acc
  exact ⟨v.sx.trans e.to f.al v.al, v.ti.step e.tab v.al fun b o _ q => e.kp' b o q, fun b hb => e.al b (fun m => nomatch m) (v.al b hb), f.frame _ _ _ v.st fun b hb o q => of_gh (e.kp' _ _ (gh_get q (f.fpt b hb).1)), ⟨m, ((ns_gh hn f.ct).keeps e.kp').keeps gh_sub⟩, ⟨ys, n0, of_gh (e.kp' _ _ (gh_get hD f.dt)), rp⟩⟩
/-- an item is drawn and stored -/
theorem LFix.draw (f : LFix s s₅ mu fp wr St C Dl) (v : LInv W s s₅ mu fp St C Dl i bd s') {h₃ : Heap} {tk : Nat} {m₃ : Str → Option Value} (kp : ∀ b o, b ≠ C → b ∉ wr → s'.heap.get? b = some o → h₃.get? b = some o) (hn : h₃.Ns C m₃) (hst : St j h₃) :
    LInv W s s₅ mu fp St C Dl j bd { s' with heap := h₃, toks := tk } := by
  obtain ⟨ys, n0, hD, rp⟩ := v.acc
  have hD₃ := kp Dl _ f.cd f.dw hD
  have sx : SExt mu s' { s' with heap := h₃, toks := tk } := SExt.but (fun b o hb e => kp b o (fun q => hb (by rw [f.mue, q]; exact .head _)) (fun q => hb (by rw [f.mue]; exact .tail _ (.tail _ q))) e) f.mt
  refine ⟨v.sx.trans sx f.al v.al, v.ti.step sx.tab v.al sx.kp, fun b hb => ?_, hst, ⟨_, hn⟩, ⟨ys, n0, hD₃, rp⟩⟩
  rw [f.mue] at hb
  rcases List.mem_cons.mp hb with rfl | hb
  · obtain ⟨o, _, _, e, _⟩ := hn
    exact Option.isSome_iff_exists.mpr ⟨o, e⟩
  rcases List.mem_cons.mp hb with rfl | hb
  · exact Option.isSome_iff_exists.mpr ⟨_, hD₃⟩
  · exact f.live _ _ hst b hb
/-- an item is laid -/
theorem LFix.push (f : LFix s s₅ mu fp wr St C Dl) (v : LInv W s s₅ mu fp St C Dl i bd s') (hbd : bd.length ≤ 100000) {u : Value} {b : At} (r : ARep u b) {Q : Value → Shared → Prop} {E : Value → Shared → Prop}
    (q : ∀ s'', LInv W s s₅ mu fp St C Dl i (bd ++ [b]) s'' → Q .none s'') : wpAny (model W.prog W.w) A (call (.builtin "list.append") [.ref Dl, u]) Q E s' := by
  obtain ⟨ys, n', hD, rp⟩ := v.acc
  obtain ⟨m, hn⟩ := v.ns
  refine wpAny_list_append_plain (hsz := by rw [List.size_toArray, rp.length]; exact sizeLine_big hbd) ⟨n', hD⟩ fun h₇ hl₇ hs₇ => q _ ?_
  obtain ⟨n₇, hD₇⟩ := hl₇
  have sx : SExt mu s' { s' with heap := h₇ } := (SExt.at (tk := s'.toks) hs₇ f.dt).weak fun b hb => by
    rw [List.mem_singleton.mp hb, f.mue]; exact .tail _ (.head _)
  refine ⟨v.sx.trans sx f.al v.al, v.ti.step sx.tab v.al sx.kp, fun q hq => ?_, f.frame _ _ _ v.st fun q hq o ho => hs₇.extBut q o (f.fpt q hq).2.2 ho, ⟨m, hn.sameBut hs₇ (Ne.symm f.cd)⟩, ⟨ys ++ [u], n₇, by rw [show (ys ++ [u]).toArray = ys.toArray.push u by simp]; exact hD₇, rp.append ⟨r, trivial⟩⟩⟩
  by_cases e : q = Dl
  · rw [e]; exact Option.isSome_iff_exists.mpr ⟨_, hD₇⟩
  · obtain ⟨o, ho⟩ := Option.isSome_iff_exists.mp (v.al q hq)
    exact Option.isSome_iff_exists.mpr ⟨o, (hs₇.2 q e).trans ho⟩
/-- the end of the items -/
theorem LFix.last (f : LFix s s₅ mu fp wr St C Dl) (v : LInv W s s₅ mu fp St C Dl i bd s') {h₂ : Heap} {tk : Nat} (hk : ∀ b o, b ∉ wr → s'.heap.get? b = some o → h₂.get? b = some o) :
    Ext s { s' with heap := h₂, toks := tk } ∧ Rep (gh h₂) (.ref Dl) (.lst bd) ∧ (∃ m, h₂.Ns C m) ∧ s.heap.get? C = none ∧ TI [C] h₂ := by
  obtain ⟨m, hn⟩ := v.ns
  obtain ⟨ys, n0, hD, rp⟩ := v.acc
  have sx : SExt mu s' { s' with heap := h₂, toks := tk } := SExt.but (fun b o hb e => hk b o (fun q => hb (by rw [f.mue]; exact .tail _ (.tail _ q))) e) f.mt
  refine ⟨f.ext.mut f.ti f.fr (v.sx.trans sx f.al v.al), ⟨Dl, ys, n0, rfl, gh_get (hk Dl _ f.dw hD) f.dt, rp⟩, ⟨m, hn.at' fun o e => hk C o f.cw e⟩, f.fr C (by rw [f.mue]; exact .head _), (v.ti.step sx.tab v.al sx.kp).mono fun q hq => ?_⟩
  rw [List.mem_singleton.mp hq, f.mue]; exact .head _
/-- the frame and the list are made -/
theorem comp_init (frame : ∀ i h h', St i h → (∀ b ∈ fp, ∀ o, h.get? b = some o → h'.get? b = some o) → St i h') (sub : ∀ b ∈ wr, b ∈ fp) (st : St 0 s₂.heap) (fpl : ∀ b ∈ fp, b < s₂.heap.objs.size) (fpt : ∀ b ∈ fp, b ∉ tabs) (ext : Ext s s₂) (ti : TI wr s₂.heap)
    (fresh : ∀ b ∈ wr, s.heap.get? b = none ∧ b ∉ tabs) (live : ∀ i h, St i h → ∀ b ∈ wr, (h.get? b).isSome) (c : CompOK scope cl env x) (ok : OK W s) {G : Value → Env → Shared → Prop}
    (h : ∀ C Dl s₅ cenv, ({ cenv with scope := relabel scope env } : Env) = compEnvC scope cl C env → cenv.locals = C → LFix s s₅ (C :: Dl :: wr) fp wr St C Dl → LInv W s s₅ (C :: Dl :: wr) fp St C Dl 0 [] s₅ → G (.ref Dl) cenv s₅) :
    wpF W A (newList []) (fun acc s₃ => wpF W A (newFunctionEnv scope env.globals cl [] env.qual none .none (some env)) (fun cenv s₄ => G acc cenv s₄) s₃) s₂ := by
  have ok₂ := ok.ext ext
  refine wpAny_newObj_type (wpAny_newFunctionEnv c.cell (fun y hy => nomatch hy) (fun h₁ hns₁ hsb₁ => ?_) c.kind) (by show (0 : Nat) ≤ sizeLine; exact Nat.zero_le _)
  dsimp only at hns₁ hsb₁ ⊢
  refine h _ _ _ _ rfl rfl ?_ ?_
  all_goals
    generalize hH2 : s₂.heap.push { cls := .type "list", dict := none, data := .seq ([] : List Value).toArray } = H2 at hns₁ hsb₁ ⊢
    have hC : H2.objs.size = s₂.heap.objs.size + 1 := by rw [← hH2, Heap.size_push]
    generalize hCe : H2.objs.size = C at hns₁ hsb₁ hC ⊢
    generalize hDe : s₂.heap.objs.size = Dl at hC ⊢
    have hDC : Dl ≠ C := by rw [hC]; exact Nat.ne_of_lt (Nat.lt_succ_self _)
    have nD : s₂.heap.get? Dl = none := Heap.get?_none_of_le (Nat.le_of_eq hDe)
    have nC : s₂.heap.get? C = none := Heap.get?_none_of_le (by rw [hDe, hC]; exact Nat.le_succ _)
    have keep : Keep s₂.heap h₁ := fun b o e => hsb₁.extBut b o (fun q => by rw [q, nC] at e; cases e) (Heap.get?_push_of_some _ (by rw [← hH2]; exact Heap.get?_push_of_some _ e))
    have hacc : h₁.get? Dl = some { cls := .type "list", data := .seq (List.toArray ([] : List Value)) 0 } := hsb₁.extBut Dl _ hDC (Heap.get?_push_of_some _ (by rw [← hH2, ← hDe]; exact Heap.get?_push_size _ rfl))
    have hst₁ : St 0 h₁ := frame _ _ _ st fun b _ o e => keep b o e
    have al₁ : ∀ b ∈ C :: Dl :: wr, (h₁.get? b).isSome := fun b hb => by
      rcases List.mem_cons.mp hb with rfl | hb
      · obtain ⟨o, _, _, e, _⟩ := hns₁; exact Option.isSome_iff_exists.mpr ⟨o, e⟩
      rcases List.mem_cons.mp hb with rfl | hb
      · exact Option.isSome_iff_exists.mpr ⟨_, hacc⟩
      · exact live 0 h₁ hst₁ b hb
    have ti₁ : TI (C :: Dl :: wr) h₁ := (ti.fresh (fun _ _ e => e) nD).fresh keep nC
  · have flt : ∀ b ∈ fp, b < Dl := fun b hb => hDe ▸ fpl b hb
    have wlt : ∀ b ∈ wr, b < Dl := fun b hb => flt b (sub b hb)
    have up : ∀ {b}, s₂.heap.get? b = none → s.heap.get? b = none := fun {b} q => by
      cases e : s.heap.get? b with
      | none => rfl
      | some o => have := ext.al b (fun m => nomatch m) (by rw [e]; rfl); rw [q] at this; cases this
    refine ⟨frame, live, rfl, ext.trans (.of_keep keep), ti₁, al₁, fun b hb => ?_, fun b hb => ?_, fun b hb => ⟨fpt b hb, by rw [hC]; exact Nat.ne_of_lt (Nat.lt_succ_of_lt (flt b hb)), Nat.ne_of_lt (flt b hb)⟩, hDC,
      fun hm => by have := wlt C hm; rw [hC] at this; exact absurd (Nat.lt_trans (Nat.lt_succ_self _) this) (Nat.lt_irrefl _), fun hm => Nat.lt_irrefl _ (wlt Dl hm)⟩
    · rcases List.mem_cons.mp hb with rfl | hb
      · exact up nC
      rcases List.mem_cons.mp hb with rfl | hb
      · exact up nD
      · exact (fresh b hb).1
    · rcases List.mem_cons.mp hb with rfl | hb
      · exact ok₂.1.big (by rw [hDe, hC]; exact Nat.le_succ _)
      rcases List.mem_cons.mp hb with rfl | hb
      · exact ok₂.1.big (Nat.le_of_eq hDe)
      · exact (fresh b hb).2
  · exact ⟨.refl _ _, ti₁, al₁, hst₁, ⟨_, hns₁⟩, ⟨[], 0, hacc, trivial⟩⟩
end

set_option maxHeartbeats 1000000 in
theorem comp_core {A : Around} {s s₂ : Shared} {as bs : List At} {I : Addr} {fp wr : List Addr} {P : Nat → Value → Prop} {St : Nat → Heap → Prop} {iter : Expr} {px pos : Pos}
    (w : Walking W A s s₂ as I fp wr P St) (c : CompOK scope cl env x) (rm : Room k A) (ok : OK W s) (E : EnvOK env) (R : Rd env (gh s.heap) ρ) (hall : CompAll W k scope cl env x ifs elt (innerOf scope.names ρ) as bs) (hsz : as.length ≤ 100000)
    {RR : Value → Addr → Result → Shared → Prop}
    (hRR : ∀ Dl C s', Ext s s' → Rep (gh s'.heap) (.ref Dl) (.lst bs) → (∃ m, s'.heap.Ns C m) → s.heap.get? C = none → C ∉ tabs → Dl ≠ C → TI [C] s'.heap → RR (.ref Dl) C (.ok .next) s') :
    wpF W A (newList []) (fun acc s₃ => wpF W A (newFunctionEnv scope env.globals cl [] env.qual none .none (some env)) (fun cenv s₄ =>
      codeAny (model W.prog W.w) A (.compStart (.ListComp elt [⟨.Name x px, iter, ifs, 0⟩] scope pos) 0 (.ref I) acc { cenv with scope := relabel scope env }) (RR acc cenv.locals) s₄) s₃) s₂ := by
  refine comp_init (G := fun acc cenv s₄ => codeAny (model W.prog W.w) A (.compStart (.ListComp elt [⟨.Name x px, iter, ifs, 0⟩] scope pos) 0 (.ref I) acc { cenv with scope := relabel scope env }) (RR acc cenv.locals) s₄) w.walks.frame w.walks.sub w.st w.fpl w.fpt w.ext w.ti w.fresh w.live c ok fun C Dl s₅ cenv e1 e2 fix inv0 => ?_
  show codeAny (model W.prog W.w) A (.compStart (.ListComp elt [⟨.Name x px, iter, ifs, 0⟩] scope pos) 0 (.ref I) (.ref Dl) { cenv with scope := relabel scope env }) (RR (.ref Dl) cenv.locals) s₅
  rw [e1, e2]
  have Ec := c.envOK (C := C) E
  have hkx : (compEnvC scope cl C env).kindOf x = some .local := lookup_relabel_local c.loc
  have hpl : ((compEnvC scope cl C env).scope.kind == .class || ((compEnvC scope cl C env).scope.kind == .module && (compEnvC scope cl C env).locals != (compEnvC scope cl C env).globals)) = false := by simp [compEnvC, relabel, c.kind]
  have loop : codeAny (model W.prog W.w) A (.compLoop (.ListComp elt [⟨.Name x px, iter, ifs, 0⟩] scope pos) 0 (.ref I) (.ref Dl) (compEnvC scope cl C env)) (RR (.ref Dl) C) s₅ := by
    refine codeAny_compLoop_tests (fun j s' => ∃ i bd br, j = as.length + 1 - i ∧ i ≤ as.length ∧ bd.length ≤ i ∧ LInv W s s₅ (C :: Dl :: wr) fp St C Dl i bd s' ∧ CompAll W k scope cl env x ifs elt (innerOf scope.names ρ) (as.drop i) br ∧ bd ++ br = bs) ?_ (as.length + 1) ⟨0, [], bs, rfl, Nat.zero_le _, Nat.le_refl _, inv0, hall, rfl⟩
    rintro j s' ⟨i, bd, br, rfl, hi, hbd, inv, hc, hbs⟩
    by_cases hlt : i < as.length
    · refine w.walks.item i s' _ _ hlt inv.st fun v h₂ tk hP hst₂ hk => ?_
      obtain ⟨a, ha, ra⟩ := w.item i v hlt hP
      obtain ⟨m, hn⟩ := inv.ns
      refine wpAny_assign_Name (wpAny_storeName_local hkx (hn.at' fun o e => hk C o fix.cw e) (fun h₃ hn₃ hs₃ => ?_) hpl)
      have inv₃ := fix.draw (tk := tk + 1) inv (fun b o b1 b2 e => hs₃.extBut b o b1 (hk b o b2 e)) hn₃ (w.walks.frame _ _ _ hst₂ fun b hb o e => hs₃.extBut b o (fix.fpt b hb).2.1 e)
      have e₃ := fix.out inv₃
      have ok₃ := ok.ext e₃
      have R₃ := c.rd (R.keeps e₃.kp') (ns_gh hn₃ fix.ct) (v := v) (by simp) ra
      have hdrop : as.drop i = a :: as.drop (i + 1) := by
        rw [List.drop_eq_getElem_cons hlt]
        rw [List.getElem?_eq_getElem hlt] at ha
        cases ha; rfl
      rw [hdrop] at hc
      have hm : as.length + 1 - (i + 1) < as.length + 1 - i := Nat.sub_lt_sub_left (Nat.lt_succ_of_lt hlt) (Nat.lt_succ_self i)
      cases hc with
      | skip ht hc' =>
        refine wp_false (tests_wp ht rm ok₃ Ec R₃ fun s₄ x₄ => ?_)
        simp only [Bool.false_eq_true, if_false]
        exact ⟨_, hm, i + 1, bd, br, rfl, hlt, Nat.le_succ_of_le hbd, fix.step inv₃ x₄, hc', hbs⟩
      | take ht he hc' =>
        rename_i b br'
        refine wp_false (tests_wp ht rm ok₃ Ec R₃ fun s₄ x₄ => ?_)
        simp only [if_true]
        refine wp_false (he C A s₄ _ rm (ok₃.ext x₄) Ec (R₃.keeps x₄.kp') fun u s₆ x₆ r₆ => ?_)
        refine fix.push (fix.step (fix.step inv₃ x₄) x₆) (Nat.le_trans hbd (Nat.le_trans hi hsz)) r₆ fun s₇ inv₇ => ?_
        exact ⟨_, hm, i + 1, bd ++ [b], br', rfl, hlt, by rw [List.length_append]; exact Nat.succ_le_succ hbd, inv₇, hc', by rw [← hbs]; simp⟩
    · have hie : i = as.length := Nat.le_antisymm hi (Nat.le_of_not_lt hlt)
      subst hie
      refine w.walks.done s' _ _ inv.st fun h₂ tk hk => ?_
      rw [List.drop_length] at hc
      cases hc
      rw [List.append_nil] at hbs
      subst hbs
      obtain ⟨f1, f2, f3, f4, f5⟩ := fix.last (tk := tk) inv hk
      exact hRR Dl C _ f1 f2 f3 f4 fix.ct fix.cd f5
  exact codeAny_compStart_list loop (w.walks.self 0 _ _ _ inv0.st loop)
end
end Mine
end
section
open PySem PySem.W PySem.Calls PyProof.Rows PySem.Spec PySem.SeqAt PySem.SeqRoads2 PySem.MeetsSeq
set_option Elab.async false
set_option maxRecDepth 100000
set_option linter.unusedVariables false
namespace Mine
section
variable {W : Wd} {k : Nat} {scope : Scope} {cl : List (Str × Addr)} {env : Env} {x : Str} {ifs : List Expr} {elt : Expr} {ρ : Rho}
noncomputable def notSet (e : Expr) : Bool := !Nat.beq (tagE e) 3
theorem folded_plain {e : Expr} (h : notSet e = true) (v : Value) : foldedSetIterable e env v = pure v := by
  cases e <;> first | rfl | exact no_tt h

theorem ev_comp {iter : Expr} {px pos : Pos} {d : D} {as bs : List At} (hi : EvTo W k env ρ iter d) (hit : ItV W d as) (hs : notSet iter = true) (c : CompOK scope cl env x) (hall : CompAll W k scope cl env x ifs elt (innerOf scope.names ρ) as bs) (hsz : as.length ≤ 100000) :
    EvTo W k env ρ (.ListComp elt [⟨.Name x px, iter, ifs, 0⟩] scope pos) (.lst bs) := fun A s Q rm ok E R q => by
  unfold wpF
  rw [eval_ListComp]
  refine wpAny_comprehension_free (use := none) rfl (folded_plain hs) c.clos c.kind c.names (hi A s _ rm ok E R fun v s₁ x₁ r₁ => ?_)
  have ok₁ := ok.ext x₁
  refine hit A s₁ v _ rm.1 ok₁ r₁ fun s₂ I fp wr P St w => ?_
  refine comp_core w c rm ok₁ E (R.keeps x₁.kp') hall hsz fun Dl C s' e r hn hC hCt hDC ti => ?_
  obtain ⟨m, hn⟩ := hn
  refine ⟨m, hn, fun h' hs' => q _ _ (x₁.trans (e.mut ti (fun b hb => ?_) (SExt.at (tk := s'.toks) hs' hCt))) ?_⟩
  · simp only [List.mem_cons, List.not_mem_nil, or_false] at hb; subst hb; exact hC
  · obtain ⟨p, vs, n, e1, hp, rp⟩ := r
    cases e1
    exact ⟨Dl, vs, n, rfl, gh_get (hs'.extBut Dl _ hDC (of_gh hp)) (gh_notin hp), rp⟩

/-- the cells that a comprehension closes over -/
noncomputable def clOf (names : List (Str × NameKind)) (cells : List (Str × Addr)) : List (Str × Addr) → List (Str × Addr) := fun acc => match names with
  | [] => acc
  | (n, kd) :: r => clOf r cells (if kd == .free then (match cells.lookup n with | some c => (n, c) :: acc | none => acc) else acc)
theorem closure_pure (f : Str × NameKind → List (Str × Addr) → Sem (ForInStep (List (Str × Addr))))
    (hf : ∀ n kd cs, f (n, kd) cs = if kd == NameKind.free then (cellOf env n >>= fun c => pure (ForInStep.yield ((n, c) :: cs))) else pure (ForInStep.yield cs)) :
    ∀ (names : List (Str × NameKind)) (acc : List (Str × Addr)), (∀ n, (n, NameKind.free) ∈ names → ∃ c, env.cells.lookup n = some c) → (forIn names acc f : Sem (List (Str × Addr))) = pure (clOf names env.cells acc)
  | [], acc, _ => by rw [List.forIn_nil]; rfl
  | (n, kd) :: r, acc, h => by
    rw [List.forIn_cons, hf]
    have hr : ∀ n, (n, NameKind.free) ∈ r → ∃ c, env.cells.lookup n = some c := fun n hn => h n (.tail _ hn)
    cases hk : kd == NameKind.free with
    | false =>
      simp only [Bool.false_eq_true, if_false, pure_bind]
      rw [closure_pure f hf r acc hr]
      simp [clOf, hk]
    | true =>
      have hkd : kd = .free := eq_of_beq hk
      subst hkd
      obtain ⟨c, hc⟩ := h n (.head _)
      have e : cellOf env n = pure c := by unfold cellOf; rw [hc]
      simp only [if_true, e, pure_bind]
      rw [closure_pure f hf r _ hr]
      simp [clOf, hc]
theorem closureFor_pure (h : ∀ n, (n, NameKind.free) ∈ scope.names → ∃ c, env.cells.lookup n = some c) : closureFor scope env = pure (clOf scope.names env.cells []) := by
  simp only [closureFor]
  rw [closure_pure (env := env) _ (fun n kd cs => by cases kd == NameKind.free <;> simp) scope.names [] h]
  rfl
theorem cl_all {cells : List (Str × Addr)} : ∀ (names : List (Str × NameKind)) (acc : List (Str × Addr)), (∀ p ∈ acc, cells.lookup p.1 = some p.2) → ∀ p ∈ clOf names cells acc, cells.lookup p.1 = some p.2
  | [], _, h => h
  | (n, kd) :: r, acc, h => by
    unfold clOf
    refine cl_all r _ ?_
    split
    · split
      · rename_i c hc
        intro p hp
        rcases List.mem_cons.mp hp with rfl | hp
        · exact hc
        · exact h p hp
      · exact h
    · exact h
theorem cl_mem {cells : List (Str × Addr)} {y : Str} {c : Addr} (hc : cells.lookup y = some c) : ∀ (names : List (Str × NameKind)) (acc : List (Str × Addr)), ((y, NameKind.free) ∈ names ∨ (y, c) ∈ acc) → (y, c) ∈ clOf names cells acc
  | [], _, h => h.elim (fun h => nomatch h) id
  | (n, kd) :: r, acc, h => by
    unfold clOf
    refine cl_mem hc r _ ?_
    rcases h with h | h
    · rcases List.mem_cons.mp h with e | h
      · cases e
        right
        simp [hc]
      · exact .inl h
    · right
      split
      · split
        · exact .tail _ h
        · exact h
      · exact h
theorem lookup_all {cells : List (Str × Addr)} {y : Str} {c : Addr} : ∀ {l : List (Str × Addr)}, (∀ p ∈ l, cells.lookup p.1 = some p.2) → (y, c) ∈ l → l.lookup y = some c
  | (n, a) :: r, h, hm => by
    rw [List.lookup_cons]
    cases hb : y == n with
    | true =>
      have e := eq_of_beq hb
      subst e
      rcases List.mem_cons.mp hm with e | hm
      · cases e; rfl
      · have h1 := h (y, a) (.head _)
        have h2 := h (y, c) (.tail _ hm)
        simp only at h1 h2
        rw [h1] at h2
        exact h2
    | false =>
      rcases List.mem_cons.mp hm with e | hm
      · cases e; simp at hb
      · exact lookup_all (fun p hp => h p (.tail _ hp)) hm
theorem mem_of_lookupN : ∀ {l : List (Str × NameKind)} {n : Str} {c : NameKind}, l.lookup n = some c → (n, c) ∈ l
  | (k, v) :: r, n, c, h => by
    rw [List.lookup_cons] at h
    cases hb : n == k with
    | true => rw [hb] at h; cases h; rw [beq_iff_eq.mp hb]; exact List.mem_cons_self
    | false => rw [hb] at h; exact List.mem_cons_of_mem _ (mem_of_lookupN h)

/-- what the look at the two scopes must say -/
noncomputable def compLook (names outer : List (Str × NameKind)) (kind : ScopeKind) (x : Str) (ρ : Rho) : Bool :=
  kind == .function && names.all (fun y => y.2 != .cell) && names.all (fun y => y.2 != .local || names.lookup y.1 == some .local) && names.lookup x == some .local && okName x &&
  names.all (fun y => y.2 != .free || ((outer.lookup y.1 == some .cell || outer.lookup y.1 == some .free) && (ρ.lookup y.1).isSome))
noncomputable def KindOK (names : List (Str × NameKind)) (env : Env) : Prop := ∀ y, (names.lookup y = some .globalImplicit → env.kindOf y = some .globalImplicit) ∧ ((names.lookup y = some .cell ∨ names.lookup y = some .free) → (env.kindOf y = some .cell ∨ env.kindOf y = some .free))
theorem KindOK.self : KindOK env.scope.names env := fun y => ⟨id, id⟩
theorem KindOK.inner {C : Addr} {cl : List (Str × Addr)} (hc : ∀ y ∈ scope.names, y.2 ≠ .cell) : KindOK scope.names (compEnvC scope cl C env) := fun y => ⟨fun h => relabel_global h, fun h => by
  rcases h with h | h
  · exact absurd rfl (hc _ (mem_of_lookupN h))
  · exact relabel_free h⟩
theorem compOK_of {h : Heap} {outer : List (Str × NameKind)} (K : KindOK outer env) (hl : compLook scope.names outer scope.kind x ρ = true) (R : Rd env h ρ) : CompOK scope (clOf scope.names env.cells []) env x := by
  unfold compLook at hl
  simp only [Bool.and_eq_true, List.all_eq_true, beq_iff_eq, bne_iff_ne, ne_eq, Bool.or_eq_true] at hl
  obtain ⟨⟨⟨⟨⟨h1, h2⟩, h3⟩, h4⟩, h5⟩, h6⟩ := hl
  have hcell : ∀ n, (n, NameKind.free) ∈ scope.names → (env.kindOf n = some .cell ∨ env.kindOf n = some .free) ∧ ∃ c, env.cells.lookup n = some c := fun n hn => by
    obtain q | ⟨hk, hs⟩ := h6 (n, .free) hn
    · exact absurd rfl q
    · refine ⟨(K n).2 hk, ?_⟩
      obtain ⟨d, hd⟩ := Option.isSome_iff_exists.mp hs
      obtain ⟨_, v, hv, _⟩ := R n d hd
      rcases hv with ⟨hl, _⟩ | ⟨_, c, hc, _⟩
      · have hk' : env.kindOf n = some .cell ∨ env.kindOf n = some .free := (K n).2 hk
        rcases hk' with q | q <;> (rw [q] at hl; cases hl)
      · exact ⟨c, hc⟩
  refine ⟨h1, h2, fun y hy hl => ?_, h4, h5, closureFor_pure fun n hn => (hcell n hn).2, fun y hy => ⟨(hcell y (mem_of_lookupN hy)).1, fun c hc => ?_⟩⟩
  · rcases h3 y hy with q | q
    · exact absurd hl q
    · exact q
  · exact lookup_all (cl_all scope.names [] fun _ h => nomatch h) (cl_mem hc scope.names [] (.inl (mem_of_lookupN hy)))
end
end Mine
end
section
open PySem PySem.W PySem.Calls PyProof.Rows PySem.Spec PySem.SeqAt PySem.SeqRoads2 PySem.MeetsSeq
set_option Elab.async false
set_option maxRecDepth 100000
set_option linter.unusedVariables false
namespace Mine
noncomputable abbrev Names := List (Str × NameKind)
structure Evs where
  e : Names → Rho → Expr → Option D
  t : Names → Rho → Expr → Option Bool
noncomputable def asAt : D → Option At
  | .at a => some a
  | _ => none
theorem asAt_eq {d : D} {a : At} (h : asAt d = some a) : d = .at a := by
  cases d with
  | «at» b => exact congrArg D.at (Option.some.inj h)
  | _ => exact no_some h
noncomputable def atomsOf : List D → Option (List At)
  | [] => some []
  | d :: r => (asAt d).bind fun a => (atomsOf r).map (a :: ·)
noncomputable def argsD (f : Expr → Option D) : List Expr → Option (List D)
  | [] => some []
  | e :: r => if plainArg e = true then (f e).bind fun d => (argsD f r).map (d :: ·) else none
noncomputable def itemsOf (d : D) : Option (List At) := match d with
  | .lst as => some as
  | .tup as => some as
  | .rng lo hi => if (decide (-1000000 ≤ lo) && decide (lo ≤ 1000000) && decide (-1000000 ≤ hi) && decide (hi ≤ 1000000)) = true then some (rngList lo hi) else none
  | _ => none
noncomputable def partD (f : Expr → Option D) : Option Expr → Option (Option Int)
  | none => some none
  | some e => ((f e).bind asInt).map some
/-- the comprehension's items -/
noncomputable def compD (f : At → Option D) (t : At → Option Bool) : List At → Option (List At)
  | [] => some []
  | a :: as => (t a).bind fun c => match c with
    | false => compD f t as
    | true => ((f a).bind asAt).bind fun b => (compD f t as).map (b :: ·)
noncomputable def bin2 (op : Operator) (x y : Option D) : Option D := x.bind fun a => y.bind fun b => binD op a b
noncomputable def evConst (c : Const) : Option D := match c with
  | .int i => some (.int i)
  | .float x => some (.flt x)
  | .str x => some (.str x)
  | .bool b => some (.bool b)
  | _ => none
noncomputable def one2 {α β : Type} (l : List α) (m : List β) (f : α → β → Option D) : Option D := match l with
  | [a] => (match m with
    | [b] => f a b
    | _ => none)
  | _ => none
noncomputable def evSeq (c : List At → D) (ds : Option (List D)) : Option D := (ds.bind atomsOf).bind fun as => if decide (as.length ≤ 100000) = true then some (c as) else none
noncomputable def slcD (a : D) (l u c : Option Int) : Option D := match a with
  | .lst as => if (c != some 0 && decide (as.length ≤ 100000)) = true then some (.lst (pickA as l u c)) else none
  | _ => none
noncomputable def evSub (f : Expr → Option D) (a : D) (s : Expr) : Option D := match s with
  | .Slice lo hi st _ => (partD f lo).bind fun l => (partD f hi).bind fun u => (partD f st).bind fun c => slcD a l u c
  | s => if notSlice s = true then (f s).bind fun b => itemD a b else none
noncomputable def callD (phi : Addr → List D → Option D) (d : D) (ds : List D) : Option D := match d with
  | .fn f => phi f ds
  | .bi id => callB id ds
  | .ty n => callT n ds
  | _ => none
noncomputable def fnD (phi : Addr → List D → Option D) (d : D) (ds : List D) : Option D := match d with
  | .fn f => phi f ds
  | _ => none
noncomputable def evCall (phi : Addr → List D → Option D) (f : Expr → Option D) (names : Names) (ρ : Rho) (fn : Expr) (args : List Expr) (pos : Pos) : Option D := match fn with
  | .Name x _ => if (names.lookup x == some .globalImplicit) = true then (GL.lookup x).bind fun d => (argsD f args).bind fun ds => callD phi d ds else (ρ.lookup x).bind fun d => (argsD f args).bind fun ds => fnD phi d ds
  | .Attribute o name apos => if (notSuper o && (apos.endLine == pos.line) && decide (args.length < 30)) = true then (f o).bind fun a => (argsD f args).bind fun ds => methD name a ds else none
  | _ => none
noncomputable def ifsD (t : Expr → Option Bool) (ifs : List Expr) : Option Bool := match ifs with
  | [] => some true
  | [c] => t c
  | _ => none
noncomputable def comD (E : Evs) (names : Names) (ρ : Rho) (elt : Expr) (x : Str) (iter : Expr) (ifs : List Expr) (scope : Scope) : Option (List At) := if (notSet iter && compLook scope.names names scope.kind x ρ) = true then ((E.e names ρ iter).bind itemsOf).bind fun as => if as.length ≤ 100000 then
  compD (fun a => E.e scope.names ((x, .at a) :: innerOf scope.names ρ) elt) (fun a => ifsD (E.t scope.names ((x, .at a) :: innerOf scope.names ρ)) ifs) as else none else none
noncomputable def comG (E : Evs) (names : Names) (ρ : Rho) (elt : Expr) (gs : List Comprehension) (scope : Scope) : Option (List At) := match gs with
  | [⟨t, iter, ifs, 0⟩] => (match t with
    | .Name x _ => comD E names ρ elt x iter ifs scope
    | _ => none)
  | _ => none
noncomputable def evStep (phi : Addr → List D → Option D) (E : Evs) (names : Names) (ρ : Rho) (e : Expr) : Option D := match e with
  | .Constant c _ _ => evConst c
  | .Name x _ => if (names.lookup x == some .globalImplicit) = true then GL.lookup x else ρ.lookup x
  | .BinOp l op r _ => bin2 op (E.e names ρ l) (E.e names ρ r)
  | .UnaryOp op x _ => (E.e names ρ x).bind (unD op)
  | .Compare l ops rs _ => one2 ops rs fun op r => if behindInMarks op r = true then none else (E.e names ρ l).bind fun a => (E.e names ρ r).bind fun b => (cmpD op a b).map .bool
  | .IfExp t b o _ => (E.t names ρ t).bind fun c => E.e names ρ (if c = true then b else o)
  | .List es _ => evSeq .lst (argsD (E.e names ρ) es)
  | .Tuple es _ _ => evSeq .tup (argsD (E.e names ρ) es)
  | .Subscript v s _ => (E.e names ρ v).bind fun a => evSub (E.e names ρ) a s
  | .Call f args kws pos => (match kws with
    | [] => evCall phi (E.e names ρ) names ρ f args pos
    | _ => none)
  | .ListComp elt gs scope _ => (comG E names ρ elt gs scope).bind fun bs => some (.lst bs)
  | _ => none
noncomputable def tsCmp (f : Expr → Option D) (l : Expr) (ops : List CmpOp) (rs : List Expr) : Option Bool := match ops with
  | [op] => (match rs with
    | [r] => if behindInMarks op r = true then none else (f l).bind fun a => (f r).bind fun b => cmpD op a b
    | _ => none)
  | [op, op'] => (match rs with
    | [r, r'] => if lastMarks [op, op'] [r, r'] = true then none else (f l).bind fun a => (f r).bind fun b => (f r').bind fun c => (cmpD op a b).bind fun v => if v = true then cmpD op' b c else none
    | _ => none)
  | _ => none
noncomputable def tsOr (t : Expr → Option Bool) (op : BoolOp) (xs : List Expr) : Option Bool := match op with
  | .Or => (match xs with
    | [x, y] => (t x).bind fun c => if c = true then some true else t y
    | _ => none)
  | _ => none
noncomputable def tsStep (E : Evs) (names : Names) (ρ : Rho) (e : Expr) : Option Bool := match e with
  | .UnaryOp op x _ => (match op with
    | .Not => (E.t names ρ x).map (! ·)
    | _ => none)
  | .BoolOp op xs _ => tsOr (E.t names ρ) op xs
  | .Compare l ops rs _ => tsCmp (E.e names ρ) l ops rs
  | e => if plainTest e = true then (E.e names ρ e).bind truthD else none
noncomputable def evs (phi : Addr → List D → Option D) : Nat → Evs
  | 0 => ⟨fun _ _ _ => none, fun _ _ _ => none⟩
  | n + 1 => ⟨evStep phi (evs phi n), tsStep (evs phi n)⟩

noncomputable def FnHas (W : Wd) (f : Addr) : Prop := ∃ o fd, W.base.get? f = some o ∧ o.data = .func fd
noncomputable def PhiOK (W : Wd) (k : Nat) (phi : Addr → List D → Option D) : Prop := ∀ f ds d, phi f ds = some d → CallOK W k f ds d ∧ FnHas W f
section
variable {W : Wd} {k : Nat} {env : Env} {ρ : Rho}
/-- a call of a function that a name of ours holds -/
theorem ev_callL {x : Str} {p pos : Pos} {args : List Expr} {f : Addr} {ds : List D} {d : D} (hf : FnHas W f) (hg : ρ.lookup x = some (.fn f)) (ha : EvTos W k env ρ args ds) (hc : CallOK W k f ds d) :
    EvTo W k env ρ (.Call (.Name x p) args [] pos) d := fun A s Q rm ok E R q => by
  obtain ⟨o, fd, ho, hd⟩ := hf
  refine Call_Name rfl (ev_name hg A s _ rm ok E R fun v s₁ x₁ r₁ => ?_)
  obtain rfl : v = .ref f := r₁
  have ok₁ := ok.ext x₁
  refine callWith_function (o := o) (fd := fd) (ev_args ha A s₁ _ rm ok₁ E (R.keeps x₁.kp') fun vs s₂ x₂ r₂ => ⟨⟨(ok₁.ext x₂).all _ _ ho, hd⟩, ?_⟩)
  exact hc A s₂ vs Q rm (ok₁.ext x₂) r₂ (Ret.after q (x₁.trans x₂))

end
section
variable {W : Wd} {k : Nat}
structure Sound (W : Wd) (k : Nat) (E : Evs) : Prop where
  e : ∀ {names ρ e d}, E.e names ρ e = some d → ∀ {env}, KindOK names env → EvTo W k env ρ e d
  t : ∀ {names ρ e b}, E.t names ρ e = some b → ∀ {env}, KindOK names env → TsTo W k env ρ e b
theorem argsD_to {E : Evs} (S : Sound W k E) {names : Names} {ρ : Rho} {env : Env} (K : KindOK names env) {es : List Expr} {ds : List D} (h : argsD (E.e names ρ) es = some ds) : EvTos W k env ρ es ds := by
  induction es generalizing ds with
  | nil =>
    obtain rfl : ([] : List D) = ds := Option.some.inj h
    exact .nil
  | cons e r ih =>
    by_cases hp : plainArg e = true
    · obtain ⟨d, hd, h'⟩ := Option.bind_eq_some_iff.mp ((if_pos hp).symm.trans h)
      obtain ⟨ds', h'', rfl⟩ := Option.map_eq_some_iff.mp h'
      exact .cons hp (S.e hd K) (ih h'')
    · exact no_some ((if_neg hp).symm.trans h)
theorem atomsOf_eq {ds : List D} {as : List At} (h : atomsOf ds = some as) : ds = as.map .at := by
  induction ds generalizing as with
  | nil =>
    obtain rfl : ([] : List At) = as := Option.some.inj h
    rfl
  | cons d r ih =>
    obtain ⟨a, ha, h'⟩ := Option.bind_eq_some_iff.mp h
    obtain ⟨as', h'', rfl⟩ := Option.map_eq_some_iff.mp h'
    rw [ih h'', asAt_eq ha]; rfl
theorem items_to {d : D} {as : List At} (h : itemsOf d = some as) : ItV W d as := by
  cases d with
  | lst l => exact some_to (P := fun as => ItV W (.lst l) as) h it_list
  | tup l => exact some_to (P := fun as => ItV W (.tup l) as) h it_tuple
  | rng lo hi =>
    obtain ⟨hc, rfl⟩ := if_some h
    simp only [Bool.and_eq_true, decide_eq_true_eq] at hc
    exact it_range hc.1.1.1 hc.1.1.2 hc.1.2 hc.2
  | _ => exact no_some h
theorem part_to {E : Evs} (S : Sound W k E) {names : Names} {ρ : Rho} {env : Env} (K : KindOK names env) {e : Option Expr} {i : Option Int} (h : partD (E.e names ρ) e = some i) : PartTo W k env ρ e i := by
  cases e with
  | none => exact some_to (P := fun i => PartTo W k env ρ none i) h .none
  | some e =>
    obtain ⟨j, hj, rfl⟩ := Option.map_eq_some_iff.mp h
    obtain ⟨d, hd, h'⟩ := Option.bind_eq_some_iff.mp hj
    rw [asInt_eq h'] at hd
    exact .some (S.e hd K)
theorem ifs_to {E : Evs} (S : Sound W k E) {scope : Scope} {cl : List (Str × Addr)} {env : Env} {x : Str} {ifs : List Expr} {ρ' : Rho} {a : At} {b : Bool} (hc : ∀ y ∈ scope.names, y.2 ≠ .cell) (h : ifsD (E.t scope.names ((x, .at a) :: ρ')) ifs = some b) : TestsTo W k scope cl env x ifs ρ' a b := by
  match ifs, h with
  | [], h => exact (Option.some.inj h).symm
  | [c], h => exact fun C => S.t h (.inner hc)
  | _ :: _ :: _, h => exact no_some h
theorem comp_to {E : Evs} (S : Sound W k E) {scope : Scope} {cl : List (Str × Addr)} {env : Env} {x : Str} {ifs : List Expr} {elt : Expr} {ρ' : Rho} (hc : ∀ y ∈ scope.names, y.2 ≠ .cell) {as bs : List At}
    (h : compD (fun a => E.e scope.names ((x, .at a) :: ρ') elt) (fun a => ifsD (E.t scope.names ((x, .at a) :: ρ')) ifs) as = some bs) : CompAll W k scope cl env x ifs elt ρ' as bs := by
  induction as generalizing bs with
  | nil =>
    obtain rfl : ([] : List At) = bs := Option.some.inj h
    exact .nil
  | cons a as ih =>
    obtain ⟨c, ht, h'⟩ := Option.bind_eq_some_iff.mp h
    cases c with
    | false => exact .skip (ifs_to S hc ht) (ih h')
    | true =>
      obtain ⟨b, hb, h''⟩ := Option.bind_eq_some_iff.mp h'
      obtain ⟨d, hd, h3⟩ := Option.bind_eq_some_iff.mp hb
      obtain ⟨bs', h4, rfl⟩ := Option.map_eq_some_iff.mp h''
      rw [asAt_eq h3] at hd
      exact .take (ifs_to S hc ht) (fun C => S.e hd (.inner hc)) (ih h4)

theorem ts_chain2 {env : Env} {ρ : Rho} {l r r' : Expr} {op op' : CmpOp} {pos : Pos} {a b c : D} {v : Bool} (hl : EvTo W k env ρ l a) (hr : EvTo W k env ρ r b) (hr' : EvTo W k env ρ r' c) (h1 : Op2 W k (compareOp op) a b (.bool true)) (h2 : Op2 W k (compareOp op') b c (.bool v)) (hm : lastMarks [op, op'] [r, r'] = false) :
    TsTo W k env ρ (.Compare l [op, op'] [r, r'] pos) v := fun A s Q rm ok E R q => by
  refine isTrue_chain (rs := []) (hl A s _ rm ok E R fun va s₁ x₁ r₁ => ?_) hm
  have ok₁ := ok.ext x₁
  refine test_link (hr A s₁ _ rm ok₁ E (R.keeps x₁.kp') fun vb s₂ x₂ r₂ => ?_)
  have ok₂ := ok₁.ext x₂
  refine h1 A s₂ va vb _ rm ok₂ (r₁.keeps x₂.kp') r₂ fun v1 s₃ x₃ r₃ => ?_
  obtain rfl : v1 = .bool true := r₃
  refine wpAny_truthy_bool ?_
  simp only [if_true]
  have ok₃ := ok₂.ext x₃
  refine test_last (hr' A s₃ _ rm ok₃ E (((R.keeps x₁.kp').keeps x₂.kp').keeps x₃.kp') fun vc s₄ x₄ r₄ => ?_)
  refine h2 A s₄ vb vc _ rm (ok₃.ext x₄) ((r₂.keeps x₃.kp').keeps x₄.kp') r₄ fun v2 s₅ x₅ r₅ => ?_
  obtain rfl : v2 = .bool v := r₅
  exact wpAny_truthy_bool (q s₅ (x₁.trans (x₂.trans (x₃.trans (x₄.trans x₅)))))
theorem seq_to {E : Evs} (S : Sound W k E) {names : Names} {ρ : Rho} {env : Env} (K : KindOK names env) {c : List At → D} {es : List Expr} {d : D} (h : evSeq c (argsD (E.e names ρ) es) = some d) : ∃ as, as.length ≤ 100000 ∧ EvTos W k env ρ es (as.map .at) ∧ c as = d := by
  obtain ⟨as, ha, h'⟩ := Option.bind_eq_some_iff.mp h
  obtain ⟨ds, h1, h2⟩ := Option.bind_eq_some_iff.mp ha
  obtain ⟨hs, he⟩ := if_some h'
  rw [atomsOf_eq h2] at h1
  exact ⟨as, of_decide_eq_true hs, argsD_to S K h1, he⟩
theorem sub_to {E : Evs} (S : Sound W k E) {names : Names} {ρ : Rho} {env : Env} (K : KindOK names env) {v s : Expr} {pos : Pos} {a d : D} (ha : EvTo W k env ρ v a) (h : evSub (E.e names ρ) a s = some d) : EvTo W k env ρ (.Subscript v s pos) d := by
  by_cases hn : notSlice s = true
  · have h' : (if notSlice s = true then (E.e names ρ s).bind fun b => itemD a b else none) = some d := by
      cases s <;> first | exact h | exact no_tt hn
    obtain ⟨b, hb, h''⟩ := Option.bind_eq_some_iff.mp ((if_pos hn).symm.trans h')
    exact ev_sub ha (S.e hb K) (item_sound hn h'')
  · cases s with
    | Slice lo hi st p =>
      obtain ⟨l, hl, h1⟩ := Option.bind_eq_some_iff.mp h
      obtain ⟨u, hu, h2⟩ := Option.bind_eq_some_iff.mp h1
      obtain ⟨c, hc, h3⟩ := Option.bind_eq_some_iff.mp h2
      cases a with
      | lst as =>
        obtain ⟨hq, rfl⟩ := if_some h3
        obtain ⟨h0, hs⟩ := Bool.and_eq_true_iff.mp hq
        exact ev_slice ha (part_to S K hl) (part_to S K hu) (part_to S K hc) (bne_iff_ne.mp h0) (of_decide_eq_true hs)
      | _ => exact no_some h3
    | _ => exact absurd rfl hn
theorem call_to (h8 : 8 ≤ k) (B : BaseOK W) (FO : FlagsOK W) {phi : Addr → List D → Option D} (hphi : PhiOK W k phi) {E : Evs} (S : Sound W k E) {names : Names} {ρ : Rho} {env : Env} (K : KindOK names env) {fn : Expr} {args : List Expr} {pos : Pos} {d : D}
    (h : evCall phi (E.e names ρ) names ρ fn args pos = some d) : EvTo W k env ρ (.Call fn args [] pos) d := by
  cases fn with
  | Name x p =>
    by_cases hg : (names.lookup x == some .globalImplicit) = true
    · obtain ⟨g, hg1, h1⟩ := Option.bind_eq_some_iff.mp ((if_pos hg).symm.trans h)
      obtain ⟨ds, ha, h2⟩ := Option.bind_eq_some_iff.mp h1
      have hk := (K _).1 (eq_of_beq hg)
      cases g with
      | fn f => exact ev_callF B hk hg1 (argsD_to S K ha) (hphi _ _ _ h2).1
      | bi id => exact ev_callB B hk hg1 (argsD_to S K ha) (callB_sound h2)
      | ty n => exact ev_callT B hk hg1 (argsD_to S K ha) (callT_sound h2)
      | _ => exact no_some h2
    · obtain ⟨g, hg1, h1⟩ := Option.bind_eq_some_iff.mp ((if_neg hg).symm.trans h)
      obtain ⟨ds, ha, h2⟩ := Option.bind_eq_some_iff.mp h1
      cases g with
      | fn f => exact ev_callL (hphi _ _ _ h2).2 hg1 (argsD_to S K ha) (hphi _ _ _ h2).1
      | _ => exact no_some h2
  | Attribute o name apos =>
    by_cases hc : (notSuper o && (apos.endLine == pos.line) && decide (args.length < 30)) = true
    · obtain ⟨a, ha, h1⟩ := Option.bind_eq_some_iff.mp ((if_pos hc).symm.trans h)
      obtain ⟨ds, hds, h2⟩ := Option.bind_eq_some_iff.mp h1
      obtain ⟨hc1, hc2⟩ := Bool.and_eq_true_iff.mp hc
      obtain ⟨hc3, hc4⟩ := Bool.and_eq_true_iff.mp hc1
      obtain ⟨id, hid, ho⟩ := meth_sound (k := k) FO h2
      exact ev_meth (S.e ha K) hc3 hc4 (of_decide_eq_true hc2) hid (argsD_to S K hds) ho
    · exact no_some ((if_neg hc).symm.trans h)
  | _ => exact no_some h
theorem comD_to {E : Evs} (S : Sound W k E) {names : Names} {ρ : Rho} {elt : Expr} {x : Str} {iter : Expr} {ifs : List Expr} {scope : Scope} {bs : List At} (h : comD E names ρ elt x iter ifs scope = some bs) :
    notSet iter = true ∧ compLook scope.names names scope.kind x ρ = true ∧ ∃ d as, E.e names ρ iter = some d ∧ itemsOf d = some as ∧ as.length ≤ 100000 ∧ ∀ cl env, CompAll W k scope cl env x ifs elt (innerOf scope.names ρ) as bs := by
  by_cases hc : (notSet iter && compLook scope.names names scope.kind x ρ) = true
  · obtain ⟨hs, hl⟩ := Bool.and_eq_true_iff.mp hc
    obtain ⟨as, ha, h1⟩ := Option.bind_eq_some_iff.mp ((if_pos hc).symm.trans h)
    obtain ⟨d, hd, hi⟩ := Option.bind_eq_some_iff.mp ha
    by_cases hz : as.length ≤ 100000
    · refine ⟨hs, hl, d, as, hd, hi, hz, fun cl env => comp_to S ?_ ((if_pos hz).symm.trans h1)⟩
      unfold compLook at hl
      simp only [Bool.and_eq_true, List.all_eq_true, bne_iff_ne, ne_eq] at hl
      exact hl.1.1.1.1.2
    · exact no_some ((if_neg hz).symm.trans h1)
  · exact no_some ((if_neg hc).symm.trans h)
theorem comG_to {E : Evs} {names : Names} {ρ : Rho} {elt : Expr} {gs : List Comprehension} {scope : Scope} {bs : List At} (h : comG E names ρ elt gs scope = some bs) : ∃ x p iter ifs, gs = [⟨.Name x p, iter, ifs, 0⟩] ∧ comD E names ρ elt x iter ifs scope = some bs := by
  unfold comG at h
  split at h
  · rename_i t iter ifs
    cases t with
    | Name x p => exact ⟨x, p, iter, ifs, rfl, h⟩
    | _ => exact no_some h
  · exact no_some h
theorem one2_to {α β : Type} {l : List α} {m : List β} {f : α → β → Option D} {d : D} (h : one2 l m f = some d) : ∃ a b, l = [a] ∧ m = [b] ∧ f a b = some d := by
  match l, m, h with
  | [a], [b], h => exact ⟨a, b, rfl, rfl, h⟩
  | [], _, h => exact no_some h
  | [_], [], h => exact no_some h
  | [_], _ :: _ :: _, h => exact no_some h
  | _ :: _ :: _, _, h => exact no_some h
theorem stepE (h8 : 8 ≤ k) (B : BaseOK W) (FO : FlagsOK W) {phi : Addr → List D → Option D} (hphi : PhiOK W k phi) {E : Evs} (S : Sound W k E) {names : Names} {ρ : Rho} {e : Expr} {d : D} (h : evStep phi E names ρ e = some d) {env : Env} (K : KindOK names env) : EvTo W k env ρ e d := by
  cases e with
  | Constant c kk pos =>
    cases c with
    | int i => exact some_to (P := fun d => EvTo W k env ρ (.Constant (.int i) kk pos) d) h ev_int
    | float i => exact some_to (P := fun d => EvTo W k env ρ (.Constant (.float i) kk pos) d) h ev_flt
    | str i => exact some_to (P := fun d => EvTo W k env ρ (.Constant (.str i) kk pos) d) h ev_str
    | bool i => exact some_to (P := fun d => EvTo W k env ρ (.Constant (.bool i) kk pos) d) h ev_bool
    | _ => exact no_some h
  | Name x pos =>
    by_cases hg : (names.lookup x == some .globalImplicit) = true
    · exact ev_global B ((K _).1 (eq_of_beq hg)) ((if_pos hg).symm.trans h)
    · exact ev_name ((if_neg hg).symm.trans h)
  | BinOp l op r pos =>
    obtain ⟨a, ha, h1⟩ := Option.bind_eq_some_iff.mp h
    obtain ⟨b, hb, h2⟩ := Option.bind_eq_some_iff.mp h1
    exact ev_bin (S.e ha K) (S.e hb K) (bin_sound h2)
  | UnaryOp op x pos =>
    obtain ⟨a, ha, h1⟩ := Option.bind_eq_some_iff.mp h
    exact ev_un (S.e ha K) (un_sound h1)
  | Compare l ops rs pos =>
    obtain ⟨op, r, rfl, rfl, h1⟩ := one2_to h
    by_cases hm : behindInMarks op r = true
    · exact no_some ((if_pos hm).symm.trans h1)
    · obtain ⟨a, ha, h2⟩ := Option.bind_eq_some_iff.mp ((if_neg hm).symm.trans h1)
      obtain ⟨b, hb, h3⟩ := Option.bind_eq_some_iff.mp h2
      obtain ⟨c, hc, rfl⟩ := Option.map_eq_some_iff.mp h3
      exact ev_cmp (S.e ha K) (S.e hb K) (cmp_sound h8 hc) (Bool.eq_false_iff.mpr hm)
  | IfExp t b o pos =>
    obtain ⟨c, hc, h1⟩ := Option.bind_eq_some_iff.mp h
    exact ev_ifexp (S.t hc K) (S.e h1 K)
  | List es pos =>
    obtain ⟨as, hs, ha, rfl⟩ := seq_to S K h
    exact ev_list ha (sizeLine_big hs)
  | Tuple es n pos =>
    obtain ⟨as, hs, ha, rfl⟩ := seq_to S K h
    exact ev_tuple ha (sizeLine_big hs)
  | Subscript v s pos =>
    obtain ⟨a, ha, h1⟩ := Option.bind_eq_some_iff.mp h
    exact sub_to S K (S.e ha K) h1
  | Call f args kws pos =>
    cases kws with
    | nil => exact call_to h8 B FO hphi S K h
    | cons _ _ => exact no_some h
  | ListComp elt gs scope pos =>
    obtain ⟨bs, hb, h1⟩ := Option.bind_eq_some_iff.mp h
    obtain ⟨x, p, iter, ifs, rfl, h2⟩ := comG_to hb
    obtain ⟨hs, hl, d', as, hd, hi, hz, hall⟩ := comD_to S h2
    refine some_to (P := fun d => EvTo W k env ρ (.ListComp elt [⟨.Name x p, iter, ifs, 0⟩] scope pos) d) h1 fun A s Q rm ok Ee R q => ?_
    exact ev_comp (S.e hd K) (items_to hi) hs (compOK_of K hl R) (hall _ env) hz A s Q rm ok Ee R q
  | _ => exact no_some h
theorem tsCmp_to (h8 : 8 ≤ k) {E : Evs} (S : Sound W k E) {names : Names} {ρ : Rho} {env : Env} (K : KindOK names env) {l : Expr} {ops : List CmpOp} {rs : List Expr} {pos : Pos} {b : Bool} (h : tsCmp (E.e names ρ) l ops rs = some b) : TsTo W k env ρ (.Compare l ops rs pos) b := by
  match ops, rs, h with
  | [op], [r], h =>
    by_cases hm : behindInMarks op r = true
    · exact no_some ((if_pos hm).symm.trans h)
    · obtain ⟨a, ha, h2⟩ := Option.bind_eq_some_iff.mp ((if_neg hm).symm.trans h)
      obtain ⟨b', hb, h3⟩ := Option.bind_eq_some_iff.mp h2
      exact ts_cmp (S.e ha K) (S.e hb K) (cmp_sound h8 h3) (Bool.eq_false_iff.mpr hm)
  | [op, op'], [r, r'], h =>
    by_cases hm : lastMarks [op, op'] [r, r'] = true
    · exact no_some ((if_pos hm).symm.trans h)
    · obtain ⟨a, ha, h2⟩ := Option.bind_eq_some_iff.mp ((if_neg hm).symm.trans h)
      obtain ⟨b', hb, h3⟩ := Option.bind_eq_some_iff.mp h2
      obtain ⟨c, hc, h4⟩ := Option.bind_eq_some_iff.mp h3
      obtain ⟨v, hv, h5⟩ := Option.bind_eq_some_iff.mp h4
      cases v with
      | true => exact ts_chain2 (S.e ha K) (S.e hb K) (S.e hc K) (cmp_sound h8 hv) (cmp_sound h8 h5) (Bool.eq_false_iff.mpr hm)
      | false => exact no_some h5
  | [], _, h => exact no_some h
  | [_], [], h => exact no_some h
  | [_], _ :: _ :: _, h => exact no_some h
  | [_, _], [], h => exact no_some h
  | [_, _], [_], h => exact no_some h
  | [_, _], _ :: _ :: _ :: _, h => exact no_some h
  | _ :: _ :: _ :: _, _, h => exact no_some h
theorem tsOr_to {E : Evs} (S : Sound W k E) {names : Names} {ρ : Rho} {env : Env} (K : KindOK names env) {op : BoolOp} {xs : List Expr} {pos : Pos} {b : Bool} (h : tsOr (E.t names ρ) op xs = some b) : TsTo W k env ρ (.BoolOp op xs pos) b := by
  cases op with
  | Or =>
    match xs, h with
    | [x, y], h =>
      obtain ⟨c, hc, h1⟩ := Option.bind_eq_some_iff.mp h
      cases c with
      | true => exact some_to (P := fun b => TsTo W k env ρ (.BoolOp .Or [x, y] pos) b) h1 (ts_or (a := true) (b := true) (S.t hc K) (fun q => nomatch q))
      | false => exact ts_or (a := false) (S.t hc K) (fun _ => S.t h1 K)
    | [], h => exact no_some h
    | [_], h => exact no_some h
    | _ :: _ :: _ :: _, h => exact no_some h
  | _ => exact no_some h
theorem stepT (h8 : 8 ≤ k) {E : Evs} (S : Sound W k E) {names : Names} {ρ : Rho} {e : Expr} {b : Bool} (h : tsStep E names ρ e = some b) {env : Env} (K : KindOK names env) : TsTo W k env ρ e b := by
  by_cases hp : plainTest e = true
  · have h' : (if plainTest e = true then (E.e names ρ e).bind truthD else none) = some b := by
      cases e <;> first | exact h | exact no_tt hp
    obtain ⟨d, hd, h1⟩ := Option.bind_eq_some_iff.mp ((if_pos hp).symm.trans h')
    exact ts_plain hp (S.e hd K) (truth_sound h1)
  · cases e with
    | UnaryOp op x pos =>
      cases op with
      | Not =>
        obtain ⟨c, hc, rfl⟩ := Option.map_eq_some_iff.mp h
        exact ts_not (S.t hc K)
      | _ => exact no_some h
    | BoolOp op xs pos => exact tsOr_to S K h
    | Compare l ops rs pos => exact tsCmp_to h8 S K h
    | IfExp t b o pos => exact no_some h
    | _ => exact absurd rfl hp
theorem step_sound (h8 : 8 ≤ k) (B : BaseOK W) (FO : FlagsOK W) {phi : Addr → List D → Option D} (hphi : PhiOK W k phi) {E : Evs} (S : Sound W k E) : Sound W k ⟨evStep phi E, tsStep E⟩ :=
  ⟨fun h _ K => stepE h8 B FO hphi S h K, fun h _ K => stepT h8 S h K⟩
theorem evs_sound (h8 : 8 ≤ k) (B : BaseOK W) (FO : FlagsOK W) {phi : Addr → List D → Option D} (hphi : PhiOK W k phi) : ∀ n, Sound W k (evs phi n)
  | 0 => ⟨fun h => (nomatch h), fun h => (nomatch h)⟩
  | n + 1 => step_sound h8 B FO hphi (evs_sound h8 B FO hphi n)
end
end Mine
end
section
open PySem PySem.W PySem.Calls PyProof.Rows PySem.Spec PySem.SeqAt PySem.SeqRoads2 PySem.MeetsSeq
set_option Elab.async false
set_option maxRecDepth 100000
set_option linter.unusedVariables false
namespace Mine
noncomputable def setR : Rho → Str → D → Rho
  | [], x, d => [(x, d)]
  | (y, e) :: r, x, d => if y == x then (y, d) :: r else (y, e) :: setR r x d
theorem setR_lookup (x : Str) (d : D) (y : Str) : ∀ ρ : Rho, (setR ρ x d).lookup y = if y = x then some d else ρ.lookup y
  | [] => by
    unfold setR
    rw [List.lookup_cons]
    by_cases h : y = x
    · subst h; simp
    · have : (y == x) = false := by simpa using h
      simp [this, h]
  | (z, e) :: r => by
    unfold setR
    by_cases hz : z = x
    · subst hz
      simp only [beq_self_eq_true, if_true, List.lookup_cons]
      by_cases h : y = z
      · subst h; simp
      · have : (y == z) = false := by simpa using h
        simp [this, h]
    · have hb : (z == x) = false := by simpa using hz
      simp only [hb, Bool.false_eq_true, if_false, List.lookup_cons]
      by_cases h : y = z
      · subst h; simp [hz]
      · have : (y == z) = false := by simpa using h
        simp only [this]
        exact setR_lookup x d y r
noncomputable def storable : D → Bool
  | .at _ => true
  | .lst _ => true
  | .tup _ => true
  | .fn _ => true
  | _ => false
noncomputable abbrev Ow := Option (Str × Addr × List At)
noncomputable def owL : Ow → List Addr
  | none => []
  | some (_, l, _) => [l]
noncomputable def muOf (env : Env) (ow : Ow) : List Addr := env.locals :: (env.cells.map (·.2) ++ owL ow)
noncomputable def OwnIs (env : Env) (ρ : Rho) (m : Str → Option Value) (h : Heap) : Ow → Prop
  | none => True
  | some (y, l, items) => env.kindOf y = some .local ∧ okName y = true ∧ ρ.lookup y = none ∧ m y = some (.ref l) ∧ ∃ vs n, h.get? l = some { cls := .type "list", data := .seq (List.toArray vs) n } ∧ AReps vs items
theorem OwnIs.mono {env : Env} {ρ ρ' : Rho} {m m' : Str → Option Value} {h h' : Heap} {ow : Ow} (x : OwnIs env ρ m h ow)
    (f : ∀ y l items, ow = some (y, l, items) → ρ.lookup y = none → m y = some (.ref l) → ∀ o, h.get? l = some o → (∃ vs n, o.data = .seq vs n) → ρ'.lookup y = none ∧ m' y = some (.ref l) ∧ h'.get? l = some o) : OwnIs env ρ' m' h' ow := by
  cases ow with
  | none => trivial
  | some p =>
    obtain ⟨y, l, items⟩ := p
    obtain ⟨h1, h2, h3, h4, vs, n, h5, h6⟩ := x
    obtain ⟨g3, g4, g5⟩ := f y l items rfl h3 h4 _ h5 ⟨_, _, rfl⟩
    exact ⟨h1, h2, g3, g4, vs, n, g5, h6⟩
theorem mem_own {env : Env} {y : Str} {l : Addr} {items : List At} : l ∈ muOf env (some (y, l, items)) := .tail _ (List.mem_append.mpr (.inr (.head _)))
structure Stt (W : Wd) (hb : Heap) (env : Env) (ρ : Rho) (ow : Ow) (s : Shared) : Prop where
  base : Keep W.base hb
  keep : Keep hb (gh s.heap)
  hbm : ∀ b ∈ muOf env ow, hb.get? b = none
  mt : ∀ b ∈ muOf env ow, b ∉ tabs
  al : ∀ b ∈ muOf env ow, (s.heap.get? b).isSome
  ti : TI (muOf env ow) s.heap
  apart : (env.cells.map (·.2)).Nodup
  ns : ∃ m, s.heap.Ns env.locals m ∧ (∀ x d, ρ.lookup x = some d → env.kindOf x = some .local → ∃ v, m x = some v ∧ Rep hb v d) ∧ OwnIs env ρ m s.heap ow
  cells : ∀ x c, (x, c) ∈ env.cells → ∃ v, s.heap.IsCell c v
  cell : ∀ x d, ρ.lookup x = some d → env.kindOf x = some .cell → ∃ c v, env.cells.lookup x = some c ∧ s.heap.IsCell c (some v) ∧ Rep hb v d
  kinds : ∀ x d, ρ.lookup x = some d → okName x = true ∧ (env.kindOf x = some .local ∨ env.kindOf x = some .cell) ∧ storable d = true

/-- a step, then another over more objects of ours -/
theorem SExt.chain {mu mu' : List Addr} {s s' s'' : Shared} (x : SExt mu s s') (y : SExt mu' s' s'') (hm : ∀ b ∈ mu', b ∈ mu ∨ s.heap.get? b = none) (ti : TI mu' s'.heap) (alm : ∀ b ∈ mu, (s'.heap.get? b).isSome) : SExt mu s s'' := by
  have nin : ∀ b, b ∉ mu → (s.heap.get? b).isSome → b ∉ mu' := fun b hb e m => by
    rcases hm b m with q | q
    · exact hb q
    · rw [q] at e; cases e
  refine ⟨fun b o hb e => y.kp b o (nin b hb (by rw [of_gh e]; rfl)) (x.kp b o hb e), fun b hb e => y.al b (nin b hb e) (x.al b hb e), fun t ht ps hp hok => ?_, y.gens.trans x.gens, y.os.trans x.os⟩
  rcases x.tab t ht ps hp hok with h1 | ⟨hn, c', hf, hr, hp'⟩
  · rcases y.tab t ht ps h1 hok with h2 | ⟨hn, c', hf, hr, hp'⟩
    · exact .inl h2
    · refine .inr ⟨hn, c', ?_, hr, hp'⟩
      cases q : s.heap.get? c' with
      | none => rfl
      | some o =>
        by_cases hcm : c' ∈ mu
        · have := alm c' hcm
          rw [hf] at this; cases this
        · have := x.al c' hcm (by rw [q]; rfl)
          rw [hf] at this; cases this
  · have hok' : TriplesOk (ps ++ #[rawInt t.pos.line, rawInt t.pos.col, .ref c']).toList := by rw [Array.toList_append]; exact triples_snoc _ hok
    have hcw : c' ∉ mu' := by
      obtain ⟨ps2, g1, g2, g3⟩ := ti t ht
      rw [hp'] at g1; cases g1
      rw [Array.toList_append] at g3
      have g4 := codeAmong_snoc (pos := t.pos) (c := .ref c') _ hok hn
      rcases g3 with g3 | ⟨c2, g5, g6, _⟩
      · exact absurd g3 (among_snoc _ hok)
      · rw [show codeAmong t.pos (ps.toList ++ [rawInt t.pos.line, rawInt t.pos.col, Value.ref c']) = some (.ref c') from g4] at g5
        cases g5; exact g6
    rcases y.tab t ht _ hp' hok' with h2 | ⟨hn2, c2, hf2, hr2, hp2⟩
    · exact .inr ⟨hn, c', hf, codeRec_kept hr fun o e => y.kp _ _ hcw e, h2⟩
    · exfalso
      rw [Array.toList_append] at hn2
      exact among_snoc _ hok hn2
/-- a statement's step -/
structure Stp (mu : List Addr) (s s' : Shared) : Prop where
  x : SExt mu s s'
  all : ∀ b, (s.heap.get? b).isSome → (s'.heap.get? b).isSome
theorem Stp.refl (mu : List Addr) (s : Shared) : Stp mu s s := ⟨.refl _ _, fun _ e => e⟩
theorem Stp.of {mu : List Addr} {s s' : Shared} (e : Ext s s') : Stp mu s s' := ⟨e.to, fun b q => e.al b (fun m => nomatch m) q⟩
theorem Stp.chain {mu mu' : List Addr} {s s' s'' : Shared} (x : Stp mu s s') (y : Stp mu' s' s'') (hm : ∀ b ∈ mu', b ∈ mu ∨ s.heap.get? b = none) (ti : TI mu' s'.heap) (al : ∀ b ∈ mu, (s.heap.get? b).isSome) : Stp mu s s'' :=
  ⟨x.x.chain y.x hm ti fun b hb => x.all b (al b hb), fun b e => y.all b (x.all b e)⟩

/-- some objects hidden -/
theorem hide_get {h : Heap} {X : List Addr} {b : Addr} {o : Obj} (e : (hideAll h X).get? b = some o) : h.get? b = some o ∧ b ∉ X := by
  refine ⟨of_hideAll _ e, fun m => ?_⟩
  rw [hideAll_none X m] at e; cases e
noncomputable def notSeq (o : Obj) : Prop := ∀ vs n, o.data ≠ .seq vs n
theorem Rep.hide {h : Heap} {X : List Addr} {v : Value} {d : D} (r : Rep h v d) (hs : storable d = true) (hX : ∀ b ∈ X, ∀ o, h.get? b = some o → notSeq o) : Rep (hideAll h X) v d := by
  cases d with
  | «at» a => exact r
  | fn f => exact r
  | tup l =>
    obtain ⟨p, vs, n, e, hp, rp⟩ := r
    exact ⟨p, vs, n, e, hideAll_get _ hp fun m => hX p m _ hp _ _ rfl, rp⟩
  | lst l =>
    obtain ⟨p, vs, n, e, hp, rp⟩ := r
    exact ⟨p, vs, n, e, hideAll_get _ hp fun m => hX p m _ hp _ _ rfl, rp⟩
  | _ => cases hs
theorem ns_notSeq {h : Heap} {a : Addr} {m : Str → Option Value} (x : h.Ns a m) : ∀ o, h.get? a = some o → notSeq o := by
  obtain ⟨o, es, ep, e, hd, _⟩ := x
  intro o' e' vs n
  rw [e] at e'; cases e'
  rw [hd]; exact fun q => nomatch q
theorem cell_notSeq {h : Heap} {a : Addr} {v : Option Value} (x : h.IsCell a v) : ∀ o, h.get? a = some o → notSeq o := by
  obtain ⟨o, e, hd⟩ := x
  intro o' e' vs n
  rw [e] at e'; cases e'
  rw [hd]; exact fun q => nomatch q

section
variable {W : Wd} {hb : Heap} {env : Env} {ρ : Rho} {ow : Ow} {s s' : Shared}
theorem Stt.ok (S : Stt W hb env ρ ow s) : OK W s := ⟨S.ti.mono (fun _ h => nomatch h), fun b o e => S.keep b o (S.base b o e)⟩
theorem mem_locals : env.locals ∈ muOf env ow := .head _
theorem mem_cells {x : Str} {c : Addr} (h : (x, c) ∈ env.cells) : c ∈ muOf env ow := .tail _ (List.mem_append.mpr (.inl (List.mem_map.mpr ⟨_, h, rfl⟩)))
theorem Stt.rd (S : Stt W hb env ρ ow s) : Rd env (gh s.heap) ρ := fun x d h => by
  obtain ⟨hk, hl, hst⟩ := S.kinds x d h
  rcases hl with hl | hl
  · obtain ⟨m, hn, hm, _⟩ := S.ns
    obtain ⟨v, hv, r⟩ := hm x d h hl
    exact ⟨hk, v, .inl ⟨hl, m, ns_gh hn (S.mt _ mem_locals), hv⟩, r.keeps S.keep⟩
  · obtain ⟨c, v, hc, ⟨o, ho, hd⟩, r⟩ := S.cell x d h hl
    exact ⟨hk, v, .inr ⟨.inl hl, c, hc, o, gh_get ho (S.mt _ (mem_cells (mem_of_lookup hc))), hd⟩, r.keeps S.keep⟩
/-- the stable part, as large as can be -/
noncomputable def stable (env : Env) (ow : Ow) (h : Heap) : Heap := hideAll (gh h) (muOf env ow)
theorem Stt.grow (S : Stt W hb env ρ ow s) : Keep hb (stable env ow s.heap) := fun b o e => hideAll_get _ (S.keep b o e) fun m => by rw [S.hbm b m] at e; cases e
theorem Stt.ext (S : Stt W hb env ρ ow s) (e : Ext s s') : Stt W (stable env ow s'.heap) env ρ ow s' ∧ Keep hb (stable env ow s'.heap) := by
  have k : Keep hb (stable env ow s'.heap) := fun b o q => hideAll_get _ (e.kp' b o (S.keep b o q)) fun m => by rw [S.hbm b m] at q; cases q
  have up : ∀ b ∈ muOf env ow, ∀ o, s.heap.get? b = some o → s'.heap.get? b = some o := fun b hb o q => of_gh (e.kp' b o (gh_get q (S.mt b hb)))
  refine ⟨⟨fun b o q => k b o (S.base b o q), fun b o q => of_hideAll _ q, fun b hb => hideAll_none _ hb, S.mt, fun b hb => e.al b (fun m => nomatch m) (S.al b hb), S.ti.step e.tab S.al fun b o _ q => e.kp' b o q, S.apart, ?_, ?_, ?_, S.kinds⟩, k⟩
  · obtain ⟨m, hn, hm, ho⟩ := S.ns
    refine ⟨m, hn.at' fun o q => up _ mem_locals o q, fun x d h1 h2 => ?_, ?_⟩
    · obtain ⟨v, h3, h4⟩ := hm x d h1 h2
      exact ⟨v, h3, h4.keeps k⟩
    · exact ho.mono fun y l items e h3 h4 o h5 _ => ⟨h3, h4, up l (e ▸ mem_own) o h5⟩
  · intro x c hc
    obtain ⟨v, o, ho, hd⟩ := S.cells x c hc
    exact ⟨v, o, up c (mem_cells hc) o ho, hd⟩
  · intro x d h1 h2
    obtain ⟨c, v, hc, ⟨o, ho, hd⟩, r⟩ := S.cell x d h1 h2
    exact ⟨c, v, hc, ⟨o, up c (mem_cells (mem_of_lookup hc)) o ho, hd⟩, r.keeps k⟩
theorem Stt.rep (S : Stt W hb env ρ ow s) {v : Value} {d : D} (r : Rep (gh s.heap) v d) (hs : storable d = true) (how : ow = none ∨ ∃ a, d = .at a) : Rep (stable env ow s.heap) v d := by
  rcases how with rfl | ⟨a, rfl⟩
  · refine r.hide hs fun b hb o e => ?_
    rcases List.mem_cons.mp hb with rfl | hb
    · obtain ⟨m, hn, _⟩ := S.ns
      exact ns_notSeq hn o (of_gh e)
    · simp only [owL, List.append_nil] at hb
      obtain ⟨⟨x, c⟩, hm, rfl⟩ := List.mem_map.mp hb
      obtain ⟨v, hv⟩ := S.cells x c hm
      exact cell_notSeq hv o (of_gh e)
  · exact r
end
end Mine
end
section
open PySem PySem.W PySem.Calls PyProof.Rows PySem.Spec PySem.SeqAt PySem.SeqRoads2 PySem.MeetsSeq
set_option Elab.async false
set_option maxRecDepth 100000
set_option linter.unusedVariables false
namespace Mine
theorem cell_inj : ∀ {l : List (Str × Addr)}, (l.map (·.2)).Nodup → ∀ {x y : Str} {c : Addr}, (x, c) ∈ l → (y, c) ∈ l → x = y
  | [], _, _, _, _, h, _ => nomatch h
  | (z, a) :: r, hn, x, y, c, h1, h2 => by
    rw [List.map_cons, List.nodup_cons] at hn
    rcases List.mem_cons.mp h1 with e1 | h1 <;> rcases List.mem_cons.mp h2 with e2 | h2
    · cases e1; cases e2; rfl
    · cases e1; exact absurd (List.mem_map.mpr ⟨_, h2, rfl⟩) hn.1
    · cases e2; exact absurd (List.mem_map.mpr ⟨_, h1, rfl⟩) hn.1
    · exact cell_inj hn.2 h1 h2
noncomputable def owName : Ow → Option Str
  | none => none
  | some (y, _, _) => some y
section
variable {W : Wd} {hb : Heap} {env : Env} {ρ : Rho} {ow : Ow} {s s' : Shared} {k : Nat}
theorem Stt.locals_ne_cell (S : Stt W hb env ρ ow s) {x : Str} {c : Addr} (h : (x, c) ∈ env.cells) : c ≠ env.locals := by
  intro e
  obtain ⟨m, ⟨o, es, ep, ho, hd, _⟩, _⟩ := S.ns
  obtain ⟨v, o', ho', hd'⟩ := S.cells x c h
  rw [e, ho] at ho'; cases ho'
  rw [hd] at hd'; cases hd'
theorem setR_kinds {x : Str} {d : D} (S : Stt W hb env ρ ow s) (hx : okName x = true) (hk : env.kindOf x = some .local ∨ env.kindOf x = some .cell) (hst : storable d = true) :
    ∀ y e, (setR ρ x d).lookup y = some e → okName y = true ∧ (env.kindOf y = some .local ∨ env.kindOf y = some .cell) ∧ storable e = true := by
  intro y e h
  rw [setR_lookup] at h
  split at h
  · rename_i q; cases h; subst q; exact ⟨hx, hk, hst⟩
  · exact S.kinds y e h

theorem Stt.store (S : Stt W hb env ρ ow s) (E : EnvOK env) {A : Around} {x : Str} {v : Value} {d : D} {Q : Unit → Shared → Prop} (hx : okName x = true) (hk : env.kindOf x = some .local ∨ (env.kindOf x = some .cell ∧ (env.cells.lookup x).isSome)) (r : Rep hb v d) (hst : storable d = true) (how : owName ow ≠ some x)
    (q : ∀ s', Stp (muOf env ow) s s' → Stt W hb env (setR ρ x d) ow s' → Q () s') : wpF W A (storeName env x v) Q s := by
  have hkk : env.kindOf x = some .local ∨ env.kindOf x = some .cell := hk.elim .inl fun h => .inr h.1
  rcases hk with hk | ⟨hk, hc⟩
  · obtain ⟨m, hn, hm, ho⟩ := S.ns
    refine wpAny_storeName_local hk hn (fun h' hn' hs' => ?_) (by rw [E.kind]; rfl)
    have hLt : env.locals ∉ tabs := S.mt _ mem_locals
    have sx : SExt (muOf env ow) s { s with heap := h', toks := s.toks + 1 } := (SExt.at (tk := s.toks + 1) hs' hLt).weak fun b hb => by
      simp only [List.mem_cons, List.not_mem_nil, or_false] at hb; subst hb; exact mem_locals
    have hLa : (h'.get? env.locals).isSome := by obtain ⟨o, _, _, e, _⟩ := hn'; rw [e]; rfl
    have all : ∀ b, (s.heap.get? b).isSome → (h'.get? b).isSome := fun b e => by
      by_cases hb : b = env.locals
      · rw [hb]; exact hLa
      · rw [hs'.2 b hb]; exact e
    refine q _ ⟨sx, all⟩ ⟨S.base, fun b o e => ?_, S.hbm, S.mt, fun b hb => all b (S.al b hb), S.ti.step sx.tab S.al sx.kp, S.apart, ⟨_, hn', fun y e h1 h2 => ?_, ?_⟩, fun y c hc => ?_, fun y e h1 h2 => ?_, setR_kinds S hx hkk hst⟩
    · exact sx.kp b o (fun mm => by rw [S.hbm b mm] at e; cases e) (S.keep b o e)
    · rw [setR_lookup] at h1
      split at h1
      · rename_i hyx; cases h1; exact ⟨v, by simp [hyx], r⟩
      · rename_i hyx
        obtain ⟨u, hu, ru⟩ := hm y e h1 h2
        exact ⟨u, by simp [hyx, hu], ru⟩
    · refine ho.mono fun y l items e h3 h4 o h5 hd => ?_
      have hyx : y ≠ x := fun q => how (by rw [e, q]; rfl)
      refine ⟨by rw [setR_lookup, if_neg hyx]; exact h3, by simp [hyx, h4], (hs'.2 l fun q => ?_).trans h5⟩
      obtain ⟨vs, n, hd⟩ := hd
      exact ns_notSeq hn _ (q ▸ h5) _ _ hd
    · obtain ⟨u, o, ho', hd⟩ := S.cells y c hc
      exact ⟨u, o, (hs'.2 c (S.locals_ne_cell hc)).trans ho', hd⟩
    · rw [setR_lookup] at h1
      split at h1
      · rename_i hyx; subst hyx; rw [hk] at h2; cases h2
      · obtain ⟨c, u, hc, ⟨o, ho', hd⟩, ru⟩ := S.cell y e h1 h2
        exact ⟨c, u, hc, ⟨o, (hs'.2 c (S.locals_ne_cell (mem_of_lookup hc))).trans ho', hd⟩, ru⟩
  · obtain ⟨c, hc⟩ := Option.isSome_iff_exists.mp hc
    have hcm := mem_of_lookup hc
    obtain ⟨v₀, hv₀⟩ := S.cells x c hcm
    refine wpAny_storeName_cell E.kind hk hc hv₀ fun h' hc' hs' => ?_
    have hct : c ∉ tabs := S.mt _ (mem_cells hcm)
    have sx : SExt (muOf env ow) s { s with heap := h' } := (SExt.at (tk := s.toks) hs' hct).weak fun b hb => by
      simp only [List.mem_cons, List.not_mem_nil, or_false] at hb; subst hb; exact mem_cells hcm
    have hca : (h'.get? c).isSome := by obtain ⟨o, e, _⟩ := hc'; rw [e]; rfl
    have all : ∀ b, (s.heap.get? b).isSome → (h'.get? b).isSome := fun b e => by
      by_cases hb : b = c
      · rw [hb]; exact hca
      · rw [hs'.2 b hb]; exact e
    obtain ⟨m, hn, hm, ho⟩ := S.ns
    refine q _ ⟨sx, all⟩ ⟨S.base, fun b o e => ?_, S.hbm, S.mt, fun b hb => all b (S.al b hb), S.ti.step sx.tab S.al sx.kp, S.apart, ⟨m, hn.sameBut hs' (Ne.symm (S.locals_ne_cell hcm)), fun y e h1 h2 => ?_, ?_⟩, fun y c' hc'' => ?_, fun y e h1 h2 => ?_, setR_kinds S hx hkk hst⟩
    · exact sx.kp b o (fun mm => by rw [S.hbm b mm] at e; cases e) (S.keep b o e)
    · rw [setR_lookup] at h1
      split at h1
      · rename_i hyx; subst hyx; rw [hk] at h2; cases h2
      · exact hm y e h1 h2
    · refine ho.mono fun y l items e h3 h4 o h5 hd => ?_
      have hyx : y ≠ x := fun q => how (by rw [e, q]; rfl)
      refine ⟨by rw [setR_lookup, if_neg hyx]; exact h3, h4, (hs'.2 l fun q => ?_).trans h5⟩
      obtain ⟨vs, n, hd⟩ := hd
      exact cell_notSeq hv₀ _ (q ▸ h5) _ _ hd
    · by_cases q : c' = c
      · subst q; exact ⟨_, hc'⟩
      · obtain ⟨u, o, ho', hd⟩ := S.cells y c' hc''
        exact ⟨u, o, (hs'.2 c' q).trans ho', hd⟩
    · rw [setR_lookup] at h1
      split at h1
      · rename_i hyx; cases h1; subst hyx; exact ⟨c, v, hc, hc', r⟩
      · rename_i hyx
        obtain ⟨c', u, hc'', ⟨o, ho', hd⟩, ru⟩ := S.cell y e h1 h2
        refine ⟨c', u, hc'', ⟨o, (hs'.2 c' fun q => hyx ?_).trans ho', hd⟩, ru⟩
        subst q
        exact cell_inj S.apart (mem_of_lookup hc'') hcm
end
end Mine
end
section
open PySem PySem.W PySem.Calls PyProof.Rows PySem.Spec PySem.SeqAt PySem.SeqRoads2 PySem.MeetsSeq
set_option Elab.async false
set_option maxRecDepth 100000
set_option linter.unusedVariables false
namespace Mine
section
variable {W : Wd} {hb : Heap} {env : Env} {ρ : Rho} {ow : Ow} {s s' : Shared} {k : Nat}

theorem draw_walk {A : Around} {s₀ s₂ : Shared} {as : List At} {I : Addr} {fp wr : List Addr} {P : Nat → Value → Prop} {St : Nat → Heap → Prop} (w : Walking W A s₀ s₂ as I fp wr P St) :
    ∀ (n i : Nat) (s : Shared) (Q : List Value → Shared → Prop), i + n = as.length → St i s.heap →
      (∀ vs h' tk, AReps vs (as.drop i) → St as.length h' → (∀ b o, b ∉ wr → s.heap.get? b = some o → h'.get? b = some o) → Q vs { s with heap := h', toks := tk }) → wpF W A (draw (.ref I) n) Q s
  | 0, i, s, Q, hi, hst, q => by
    have e : i = as.length := by (first | grind | omega)
    subst e
    exact wpAny_pure (q [] s.heap s.toks (by rw [List.drop_length]; trivial) hst fun _ _ _ e => e)
  | n + 1, i, s, Q, hi, hst, q => by
    have hlt : i < as.length := by (first | grind | omega)
    show wpF W A (pyNext (.ref I) >>= fun r => match r with | none => pure [] | some v => (do return v :: (← holding [v] (draw (.ref I) n)))) Q s
    refine wpAny_bind (w.walks.item i s _ _ hlt hst fun v h₁ tk₁ hP hst₁ hk₁ => ?_)
    obtain ⟨a, ha, ra⟩ := w.item i v hlt hP
    refine wpAny_bind (wpAny_holding (draw_walk w n (i + 1) _ _ (by (first | grind | omega)) hst₁ fun vs h' tk r hst' hk => wpAny_pure ?_))
    refine q _ h' tk ?_ hst' fun b o hb e => hk b o hb (hk₁ b o hb e)
    rw [List.drop_eq_getElem_cons hlt]
    rw [List.getElem?_eq_getElem hlt] at ha
    cases ha
    exact ⟨ra, r⟩
noncomputable def seqOf : D → Option (List At)
  | .lst as => some as
  | .tup as => some as
  | _ => none
theorem notIter_seq {A : Around} {v : Value} {d : D} {as : List At} (h : seqOf d = some as) (r : Rep (gh s.heap) v d) {Q : Bool → Shared → Prop} (q : Q false s) : wpF W A (notIterableAtAll v) Q s := by
  unfold notIterableAtAll
  cases d with
  | lst l =>
    obtain ⟨p, vs, n, rfl, hp, rp⟩ := r
    exact wpAny_bind (wpAny_specialOf (isList_of (of_gh hp)).typeIs slot_list_iter.lookup (wpAny_pure q))
  | tup l =>
    obtain ⟨p, vs, n, rfl, hp, rp⟩ := r
    exact wpAny_bind (wpAny_specialOf (T := "tuple") ⟨_, of_gh hp, rfl⟩ F.slot_tuple_iter.lookup (wpAny_pure q))
  | _ => cases h
theorem itV_seq {d : D} {as : List At} (h : seqOf d = some as) : ItV W d as := by
  cases d with
  | lst l => cases h; exact it_list
  | tup l => cases h; exact it_tuple
  | _ => cases h
theorem unpackItems_to {A : Around} {v : Value} {d : D} {as : List At} {Q : List Value → Shared → Prop} (hh : A.handled = none) (ok : OK W s) (h : seqOf d = some as) (r : Rep (gh s.heap) v d)
    (q : ∀ vs s', Ext s s' → AReps vs as → Q vs s') : wpF W A (unpackItems v as.length none) Q s := by
  unfold unpackItems
  refine wpAny_bind (notIter_seq h r ?_)
  simp only [Bool.false_eq_true, if_false]
  refine wpAny_bind (wpAny_holding (itV_seq h A s v _ hh ok r fun s₂ I fp wr P St w => ?_))
  refine wpAny_bind (wpAny_holding (draw_walk w as.length 0 s₂ _ (by (first | grind | omega)) w.st fun vs h' tk rv hst' hk => ?_))
  rw [List.drop_zero] at rv
  rw [if_neg (by rw [rv.length]; (first | grind | omega))]
  refine wpAny_bind (wpAny_holding (w.walks.done _ _ _ hst' fun h'' tk' hk' => ?_))
  simp only [Option.isSome_none, Bool.false_eq_true, if_false]
  refine wpAny_pure (q vs _ (w.ext.mut w.ti (fun b hb => (w.fresh b hb).1) ?_) rv)
  exact SExt.but (fun b o hb e => hk' b o hb (hk b o hb e)) fun b hb => (w.fresh b hb).2

/-- several names at once -/
noncomputable def setAll : Rho → List Str → List At → Rho
  | ρ, x :: xs, a :: as => setAll (setR ρ x (.at a)) xs as
  | ρ, _, _ => ρ
noncomputable def CellsIn (env : Env) : Prop := ∀ x, env.kindOf x = some .cell → (env.cells.lookup x).isSome
structure FEnv (names : Names) (env : Env) : Prop where
  ok : EnvOK env
  names : env.scope.names = names
  cells : CellsIn env
noncomputable def okStore (names : Names) (ow : Option Str) (x : Str) : Bool := okName x && (names.lookup x == some .local || names.lookup x == some .cell) && ow != some x
theorem okStore_at {names : Names} {ow : Option Str} {x : Str} (F : FEnv names env) (h : okStore names ow x = true) : okName x = true ∧ (env.kindOf x = some .local ∨ (env.kindOf x = some .cell ∧ (env.cells.lookup x).isSome)) ∧ ow ≠ some x := by
  unfold okStore at h
  simp only [Bool.and_eq_true, Bool.or_eq_true, beq_iff_eq, bne_iff_ne, ne_eq] at h
  obtain ⟨⟨h1, h2⟩, h3⟩ := h
  refine ⟨h1, ?_, h3⟩
  rcases h2 with h2 | h2
  · exact .inl (by unfold Env.kindOf; rw [F.names]; exact h2)
  · have : env.kindOf x = some .cell := by unfold Env.kindOf; rw [F.names]; exact h2
    exact .inr ⟨this, F.cells x this⟩
theorem store_all {names : Names} (F : FEnv names env) {A : Around} {Q : Unit → Shared → Prop} : ∀ (xs : List Str) (fs : List (Value → Sem Unit)) (vs : List Value) (as : List At) (ρ : Rho) (s : Shared),
    fs.length = xs.length → (∀ (i : Nat) (f : Value → Sem Unit) (x : Str), fs[i]? = some f → xs[i]? = some x → ∀ v s Q, wpF W A (storeName env x v) Q s → wpF W A (f v) Q s) → (∀ x ∈ xs, okStore names (owName ow) x = true) → xs.length = as.length → AReps vs as → Stt W hb env ρ ow s →
    (∀ s', Stp (muOf env ow) s s' → Stt W hb env (setAll ρ xs as) ow s' → Q () s') → wpF W A (assignInOrder fs vs) Q s
  | [], [], vs, [], ρ, s, _, _, _, _, r, S, q => wpAny_pure (q s (.refl _ _) S)
  | x :: xs, f :: fs, v :: vs, a :: as, ρ, s, hl, hf, hx, hn, r, S, q => by
    obtain ⟨h1, h2, h3⟩ := okStore_at F (hx x (.head _))
    show wpF W A (do holding vs (f v); assignInOrder fs vs) Q s
    refine wpAny_bind (wpAny_holding (hf 0 f x rfl rfl v s _ (S.store F.ok h1 h2 (show Rep hb v (.at a) from r.1) rfl h3 fun s₁ st₁ S₁ => ?_)))
    refine store_all F xs fs vs as _ s₁ (by simpa using hl) (fun i g y hg hy => hf (i + 1) g y (by simpa using hg) (by simpa using hy)) (fun y hy => hx y (.tail _ hy)) (by simpa using hn) r.2 S₁ fun s₂ st₂ S₂ => q s₂ (st₁.chain st₂ (fun b hb => .inl hb) S₁.ti S.al) S₂
  | [], f :: fs, _, _, _, _, hl, _, _, _, _, _, _ => by simp at hl
  | _ :: _, [], _, _, _, _, hl, _, _, _, _, _, _ => by simp at hl
  | [], [], _, _ :: _, _, _, _, _, _, hn, _, _, _ => by simp at hn
  | _ :: _, _ :: _, _, [], _, _, _, _, _, hn, _, _, _ => by simp at hn
  | _ :: _, _ :: _, [], _ :: _, _, _, _, _, _, _, r, _, _ => r.elim
end
end Mine
end
section
open PySem PySem.W PySem.Calls PyProof.Rows PySem.Spec PySem.SeqAt PySem.SeqRoads2 PySem.MeetsSeq
set_option Elab.async false
set_option maxRecDepth 100000
set_option linter.unusedVariables false
namespace Mine
inductive FlowD where
  | next
  | brk
  | ret (d : D)
noncomputable def FlowR (h : Heap) (f : Flow) : FlowD → Prop
  | .next => f = .next
  | .brk => f = .brk
  | .ret d => ∃ v, f = .ret v ∧ Rep h v d
noncomputable abbrev OwD := Option (Str × List At)
noncomputable def OwM : OwD → Ow → Prop
  | none, none => True
  | some (y, xs), some (y', _, xs') => y = y' ∧ xs = xs'
  | _, _ => False
noncomputable abbrev St := Rho × OwD
noncomputable abbrev Post (W : Wd) (hb : Heap) (env : Env) (ow : Ow) (s : Shared) (st' : St) (fl : FlowD) (Q : Flow → Shared → Prop) : Prop :=
  ∀ f s' hb' ow', Stp (muOf env ow) s s' → (∀ b ∈ muOf env ow', b ∈ muOf env ow ∨ s.heap.get? b = none) → OwM st'.2 ow' → Stt W hb' env st'.1 ow' s' → Keep hb hb' → FlowR (gh s'.heap) f fl → Q f s'
noncomputable def Ex (W : Wd) (k : Nat) (names : Names) (t : Env → Sem Flow) (st st' : St) (fl : FlowD) : Prop :=
  ∀ A s hb env ow Q, Room k A → FEnv names env → OwM st.2 ow → Stt W hb env st.1 ow s → Post W hb env ow s st' fl Q → wpF W A (t env) Q s
noncomputable abbrev ExS (W : Wd) (k : Nat) (names : Names) (c : Stmt) (st st' : St) (fl : FlowD) : Prop := Ex W k names (exec c) st st' fl
noncomputable abbrev ExL (W : Wd) (k : Nat) (names : Names) (c : List Stmt) (st st' : St) (fl : FlowD) : Prop := Ex W k names (execs c) st st' fl
theorem OwM.name {od : OwD} {ow : Ow} (h : OwM od ow) : owName ow = od.map (·.1) := by
  match od, ow, h with
  | none, none, _ => rfl
  | some (y, xs), some (y', l, xs'), h => exact congrArg some h.1.symm
theorem OwM.none_iff {ow : Ow} (h : OwM none ow) : ow = none := by
  match ow, h with
  | none, _ => rfl

section
variable {W : Wd} {k : Nat} {names : Names}
theorem Post.after {hb hb₁ : Heap} {env : Env} {ow ow₁ : Ow} {s s₁ : Shared} {st' : St} {fl : FlowD} {Q : Flow → Shared → Prop} (q : Post W hb env ow s st' fl Q) (x : Stp (muOf env ow) s s₁) (hm : ∀ b ∈ muOf env ow₁, b ∈ muOf env ow ∨ s.heap.get? b = none)
    (ti : TI (muOf env ow₁) s₁.heap) (al : ∀ b ∈ muOf env ow, (s.heap.get? b).isSome) (kp : Keep hb hb₁) : Post W hb₁ env ow₁ s₁ st' fl Q := fun f s' hb' ow' y hm' om S' kp' fr =>
  q f s' hb' ow' (x.chain y hm ti al) (fun b hb => (hm' b hb).elim (fun h => hm b h) fun h => .inr (by
    cases e : s.heap.get? b with
    | none => rfl
    | some o => have := x.all b (by rw [e]; rfl); rw [h] at this; cases this)) om S' (fun b o e => kp' b o (kp b o e)) fr
theorem Post.ext {hb : Heap} {env : Env} {ow : Ow} {s s₁ : Shared} {ρ : Rho} {st' : St} {fl : FlowD} {Q : Flow → Shared → Prop} (q : Post W hb env ow s st' fl Q) (S : Stt W hb env ρ ow s) (x : Ext s s₁) : Post W (stable env ow s₁.heap) env ow s₁ st' fl Q :=
  q.after (.of x) (fun b hb => .inl hb) (S.ext x).1.ti S.al (S.ext x).2

theorem ex_nil {st : St} : ExL W k names [] st st .next := fun A s hb env ow Q rm F om S q => wpAny_execs_nil (q _ s hb ow (.refl _ _) (fun b hb => .inl hb) om S (fun _ _ e => e) rfl)
theorem ex_cons {c : Stmt} {r : List Stmt} {st st₁ st' : St} {fl : FlowD} (h1 : ExS W k names c st st₁ .next) (h2 : ExL W k names r st₁ st' fl) : ExL W k names (c :: r) st st' fl := fun A s hb env ow Q rm F om S q =>
  wpAny_execs_cons (h1 A s hb env ow _ rm F om S fun f s₁ hb₁ ow₁ x hm om₁ S₁ kp fr => by
    obtain rfl : f = .next := fr
    exact h2 A s₁ hb₁ env ow₁ Q rm F om₁ S₁ (q.after x hm S₁.ti S.al kp))
theorem ex_stop {c : Stmt} {r : List Stmt} {st st' : St} {fl : FlowD} (hn : fl ≠ .next) (h1 : ExS W k names c st st' fl) : ExL W k names (c :: r) st st' fl := fun A s hb env ow Q rm F om S q =>
  wpAny_execs_cons (h1 A s hb env ow _ rm F om S fun f s₁ hb₁ ow₁ x hm om₁ S₁ kp fr => by
    cases fl with
    | next => exact absurd rfl hn
    | brk => obtain rfl : f = .brk := fr; exact q _ s₁ hb₁ ow₁ x hm om₁ S₁ kp rfl
    | ret d => obtain ⟨v, rfl, rv⟩ := fr; exact q _ s₁ hb₁ ow₁ x hm om₁ S₁ kp ⟨v, rfl, rv⟩)

/-- a list of ours is ours no more -/
theorem Stt.freeze {hb : Heap} {env : Env} {ρ : Rho} {y : Str} {l : Addr} {items : List At} {s : Shared} (S : Stt W hb env ρ (some (y, l, items)) s) :
    Stt W (stable env none s.heap) env (setR ρ y (.lst items)) none s ∧ Keep hb (stable env none s.heap) := by
  have sub : ∀ b ∈ muOf env none, b ∈ muOf env (some (y, l, items)) := fun b hb => by
    rcases List.mem_cons.mp hb with rfl | hb
    · exact .head _
    · simp only [owL, List.append_nil] at hb
      exact .tail _ (List.mem_append.mpr (.inl hb))
  have k : Keep hb (stable env none s.heap) := fun b o e => hideAll_get _ (S.keep b o e) fun m => by rw [S.hbm b (sub b m)] at e; cases e
  obtain ⟨m, hn, hm, h1, h2, h3, h4, vs, n, h5, h6⟩ := S.ns
  have hlm : l ∈ muOf env (some (y, l, items)) := .tail _ (List.mem_append.mpr (.inr (.head _)))
  have rl : Rep (stable env none s.heap) (.ref l) (.lst items) := by
    refine ⟨l, vs, n, rfl, hideAll_get _ (gh_get h5 (S.mt l hlm)) fun mm => ?_, h6⟩
    rcases List.mem_cons.mp mm with e | mm
    · exact ns_notSeq hn _ (e ▸ h5) _ _ rfl
    · simp only [owL, List.append_nil] at mm
      obtain ⟨⟨x, c⟩, hc, e⟩ := List.mem_map.mp mm
      simp only at e
      obtain ⟨v, hv⟩ := S.cells x c hc
      exact cell_notSeq hv _ (e ▸ h5) _ _ rfl
  refine ⟨⟨fun b o e => k b o (S.base b o e), fun b o e => of_hideAll _ e, fun b hb => hideAll_none _ hb, fun b hb => S.mt b (sub b hb), fun b hb => S.al b (sub b hb), S.ti.mono sub, S.apart, ⟨m, hn, fun x d e1 e2 => ?_, trivial⟩, S.cells, fun x d e1 e2 => ?_, fun x d e1 => ?_⟩, k⟩
  · rw [setR_lookup] at e1
    split at e1
    · rename_i hx; cases e1; subst hx; exact ⟨_, h4, rl⟩
    · obtain ⟨v, hv, r⟩ := hm x d e1 e2; exact ⟨v, hv, r.keeps k⟩
  · rw [setR_lookup] at e1
    split at e1
    · rename_i hx; subst hx; rw [h1] at e2; cases e2
    · obtain ⟨c, v, hc, hv, r⟩ := S.cell x d e1 e2; exact ⟨c, v, hc, hv, r.keeps k⟩
  · rw [setR_lookup] at e1
    split at e1
    · rename_i hx; cases e1; subst hx; exact ⟨h2, .inl h1, rfl⟩
    · exact S.kinds x d e1
noncomputable def frozen : St → St
  | (ρ, none) => (ρ, none)
  | (ρ, some (y, xs)) => (setR ρ y (.lst xs), none)
theorem ex_freeze {t : Env → Sem Flow} {st st' : St} {fl : FlowD} (h : Ex W k names t (frozen st) st' fl) : Ex W k names t st st' fl := by
  obtain ⟨ρ, od⟩ := st
  cases od with
  | none => exact h
  | some p =>
    obtain ⟨y, xs⟩ := p
    intro A s hb env ow Q rm F om S q
    match ow, om, S with
    | some (y', l, xs'), om, S =>
      obtain ⟨rfl, rfl⟩ := om
      obtain ⟨S', kp⟩ := S.freeze
      refine h A s _ env none Q rm F trivial S' (q.after (.refl _ _) (fun b hb => .inl ?_) S'.ti S.al kp)
      rcases List.mem_cons.mp hb with rfl | hb
      · exact .head _
      · simp only [owL, List.append_nil] at hb
        exact .tail _ (List.mem_append.mpr (.inl hb))

/-- a value is stored under a name -/
theorem ex_assign {x : Str} {px pos : Pos} {e : Expr} {ρ : Rho} {od : OwD} {d : D} (he : ∀ env, FEnv names env → EvTo W k env ρ e d) (hsw : ∀ env, FEnv names env → swapsWith e (some (.Name x px)) pos.line env = pure false) (hx : okStore names (od.map (·.1)) x = true) (hst : storable d = true)
    (how : od = none ∨ ∃ a, d = .at a) : ExS W k names (.Assign [.Name x px] e pos) (ρ, od) (setR ρ x d, od) .next := fun A s hb env ow Q rm F om S q => by
  obtain ⟨h1, h2, h3⟩ := okStore_at F hx
  refine wpAny_Assign_Name (he env F A s _ rm S.ok F.ok S.rd fun v s₁ x₁ r₁ => ?_) (hsw env F)
  have how' : ow = none ∨ ∃ a, d = .at a := how.elim (fun e => .inl (by subst e; exact om.none_iff)) .inr
  obtain ⟨S₁, k₁⟩ := S.ext x₁
  refine S₁.store F.ok h1 h2 (S₁.rep r₁ hst how') hst (by rw [om.name]; exact h3) fun s₂ st₂ S₂ => ?_
  exact (q.ext S x₁) _ s₂ _ ow st₂ (fun b hb => .inl hb) om S₂ (fun _ _ e => e) rfl
theorem ex_return {e : Expr} {pos : Pos} {ρ : Rho} {od : OwD} {d : D} (he : ∀ env, FEnv names env → EvTo W k env ρ e d) : ExS W k names (.Return (some e) pos) (ρ, od) (ρ, od) (.ret d) := fun A s hb env ow Q rm F om S q => by
  refine wpAny_Return_some (he env F A s _ rm S.ok F.ok S.rd fun v s₁ x₁ r₁ => ?_)
  obtain ⟨S₁, k₁⟩ := S.ext x₁
  exact (q.ext S x₁) _ s₁ _ ow (.refl _ _) (fun b hb => .inl hb) om S₁ (fun _ _ e => e) ⟨v, rfl, r₁⟩
theorem ex_if {t : Expr} {b o : List Stmt} {pos : Pos} {ρ : Rho} {od : OwD} {c : Bool} {st' : St} {fl : FlowD} (ht : ∀ env, FEnv names env → TsTo W k env ρ t c) (hb : ExL W k names (if c then b else o) (ρ, od) st' fl) : ExS W k names (.If t b o pos) (ρ, od) st' fl := fun A s hb' env ow Q rm F om S q => by
  refine wpAny_If (ht env F A s _ rm S.ok F.ok S.rd fun s₁ x₁ => ?_)
  obtain ⟨S₁, k₁⟩ := S.ext x₁
  cases c with
  | true => exact hb A s₁ _ env ow Q rm F om S₁ (q.ext S x₁)
  | false => exact hb A s₁ _ env ow Q rm F om S₁ (q.ext S x₁)
theorem ex_aug {x : Str} {px pos : Pos} {op : Operator} {e : Expr} {ρ : Rho} {od : OwD} {a b : D} {d : At} (hx : okStore names (od.map (·.1)) x = true) (ha : ρ.lookup x = some a) (he : ∀ env, FEnv names env → EvTo W k env ρ e b) (ho : Op2 W k (inplaceOp op) a b (.at d)) :
    ExS W k names (.AugAssign (.Name x px) op e pos) (ρ, od) (setR ρ x (.at d), od) .next := fun A s hb env ow Q rm F om S q => by
  obtain ⟨h1, h2, h3⟩ := okStore_at F hx
  obtain ⟨_, v, hv, rv⟩ := S.rd x a ha
  refine wpAny_AugAssign_Name (wp_load F.ok h1 hv (he env F A s _ rm S.ok F.ok S.rd fun u s₁ x₁ r₁ => ?_))
  refine ho A s₁ v u _ rm (S.ok.ext x₁) (rv.keeps x₁.kp') r₁ fun y s₂ x₂ r₂ => ?_
  have x₁₂ := x₁.trans x₂
  obtain ⟨S₂, k₂⟩ := S.ext x₁₂
  refine S₂.store F.ok h1 h2 (S₂.rep r₂ rfl (.inr ⟨_, rfl⟩)) rfl (by rw [om.name]; exact h3) fun s₃ st₃ S₃ => ?_
  exact (q.ext S x₁₂) _ s₃ _ ow st₃ (fun b hb => .inl hb) om S₃ (fun _ _ e => e) rfl
end
end Mine
end
section
open PySem PySem.W PySem.Calls PyProof.Rows PySem.Spec PySem.SeqAt PySem.SeqRoads2 PySem.MeetsSeq
set_option Elab.async false
set_option maxRecDepth 100000
set_option linter.unusedVariables false
namespace Mine
noncomputable def asName : Expr → Option (Str × Pos)
  | .Name x p => some (x, p)
  | _ => none
theorem asName_eq {e : Expr} {q : Str × Pos} (h : asName e = some q) : e = .Name q.1 q.2 := by
  cases e with
  | Name x p => obtain rfl : (x, p) = q := Option.some.inj h; rfl
  | _ => exact no_some h
noncomputable def nameElts : List Expr → Option (List Str)
  | [] => some []
  | e :: r => (asName e).bind fun q => (nameElts r).map (q.1 :: ·)
noncomputable def swD (names : Names) (ts vs : List Expr) : Option (Option (List Str)) :=
  if !(ts.length == 2 || ts.length == 3) || vs.length != ts.length then some none
  else if vs.any (fun | .Starred .. => true | _ => false) then some none
  else
    let line := (ts.head?.map (·.pos.line)).getD 0
    let ns := ts.filterMap fun
      | .Name id pos => if names.lookup id == some .local && pos.line == line then some id else none
      | _ => none
    if ns.length != ts.length || ns.eraseDups.length != ns.length then some none
    else if vs.all (foldedForSure 8) then some none
    else if vs.all (constantsAlone 8) then none
    else some (some ns)
section
variable {W : Wd} {k : Nat} {names : Names}
theorem block_fn {env : Env} (E : EnvOK env) : env.blockKind = .function := by unfold Env.blockKind; rw [E.kind]; rfl
theorem swapped_eq {env : Env} (F : FEnv names env) {ts vs : List Expr} {k1 k2 : Nat} {p1 p2 : Pos} {r : Option (List Str)} (h : swD names ts vs = some r) : swappedStores [.Tuple ts k1 p1] (.Tuple vs k2 p2) env = pure r := by
  unfold swD at h
  unfold swappedStores
  have hb : (env.blockKind != ScopeKind.function) = false := by rw [block_fn F.ok]; rfl
  have hk : ∀ id, env.kindOf id = names.lookup id := fun id => by unfold Env.kindOf; rw [F.names]
  simp only [hb, Bool.or_false, hk]
  split at h
  · rename_i hc; cases h; exact (if_pos hc).trans rfl
  · rename_i hc
    refine (if_neg hc).trans ?_
    split at h
    · rename_i hc; cases h; exact (if_pos hc).trans rfl
    · rename_i hc
      refine (if_neg hc).trans ?_
      dsimp only at h
      split at h
      · rename_i hc; cases h; exact (if_pos hc).trans rfl
      · rename_i hc
        refine (if_neg hc).trans ?_
        split at h
        · rename_i hc; cases h; exact (if_pos hc).trans rfl
        · rename_i hc
          refine (if_neg hc).trans ?_
          split at h
          · cases h
          · rename_i hc; cases h; exact (if_neg hc).trans rfl
noncomputable def isTuple (e : Expr) : Bool := Nat.beq (tagE e) 4
theorem swapped_none {env : Env} {ts : List Expr} {k1 : Nat} {p1 : Pos} {e : Expr} (h : isTuple e = false) : swappedStores [.Tuple ts k1 p1] e env = pure none := by
  cases e <;> first | rfl | exact no_tt h.symm
theorem sole_tuple {env : Env} {ts : List Expr} {k1 : Nat} {p1 : Pos} {e : Expr} {line : Nat} : swapsWithSole [.Tuple ts k1 p1] e line env = pure false := by
  cases e <;> rfl
theorem each_names {env : Env} {ts : List Expr} {xs : List Str} (h : nameElts ts = some xs) : (assignEach ts env).length = xs.length ∧ (assignEach ts env).findIdx? (·.1) = none ∧
    ∀ (i : Nat) (f : Value → Sem Unit) (x : Str), ((assignEach ts env).map (·.2))[i]? = some f → xs[i]? = some x → ∃ p, f = assign (.Name x p) env := by
  induction ts generalizing xs with
  | nil =>
    obtain rfl : ([] : List Str) = xs := Option.some.inj h
    exact ⟨rfl, rfl, fun i f x e => no_some e⟩
  | cons e r ih =>
    obtain ⟨⟨x, p⟩, hq, h'⟩ := Option.bind_eq_some_iff.mp h
    obtain ⟨ys, h'', rfl⟩ := Option.map_eq_some_iff.mp h'
    obtain rfl := asName_eq hq
    obtain ⟨h1, h2, h3⟩ := ih h''
    have e : assignEach (.Name x p :: r) env = (false, assign (.Name x p) env) :: assignEach r env := rfl
    rw [e]
    refine ⟨congrArg (· + 1) h1, by simp [List.findIdx?_cons, h2], fun i f y hf hy => ?_⟩
    cases i with
    | zero => exact ⟨p, by rw [← Option.some.inj hf, ← Option.some.inj hy]⟩
    | succ i => exact h3 i f y hf hy
theorem ex_tuple {ts : List Expr} {xs : List Str} {k1 : Nat} {p1 pos : Pos} {e : Expr} {ρ : Rho} {od : OwD} {d : D} {as : List At} (hxs : nameElts ts = some xs) (he : ∀ env, FEnv names env → EvTo W k env ρ e d) (hd : seqOf d = some as) (hl : xs.length = as.length)
    (hx : ∀ x ∈ xs, okStore names (od.map (·.1)) x = true) (hw : ∀ env, FEnv names env → swappedStores [.Tuple ts k1 p1] e env = pure none) :
    ExS W k names (.Assign [.Tuple ts k1 p1] e pos) (ρ, od) (setAll ρ xs as, od) .next := fun A s hb env ow Q rm F om S q => by
  refine Assign_Tuple (he env F A s _ rm S.ok F.ok S.rd fun v s₁ x₁ r₁ => ?_) sole_tuple (hw env F)
  obtain ⟨h1, h2, h3⟩ := each_names (env := env) hxs
  show wpF W A (do standAt p1; unpack v (assignEach ts env)) _ s₁
  refine wpAny_bind (wpAny_standAt ?_)
  unfold unpack
  rw [h2, h1, hl]
  refine wpAny_bind (wpAny_holding (unpackItems_to rm.1 (S.ok.ext x₁) hd r₁ fun vs s₂ x₂ r₂ => ?_))
  have x₁₂ := x₁.trans x₂
  obtain ⟨S₂, k₂⟩ := S.ext x₁₂
  refine store_all F xs _ vs as ρ s₂ (by simpa using h1) (fun i f x hf hx v s Q hq => ?_) (fun x hx' => by rw [om.name]; exact hx x hx') hl r₂ S₂ fun s₃ st₃ S₃ => ?_
  · obtain ⟨p, rfl⟩ := h3 i f x hf hx
    exact wpAny_assign_Name hq
  · exact (q.ext S x₁₂) _ s₃ _ ow st₃ (fun b hb => .inl hb) om S₃ (fun _ _ e => e) rfl
theorem ex_tupleS {ts : List Expr} {xs : List Str} {k1 : Nat} {p1 pos : Pos} {e : Expr} {ρ : Rho} {od : OwD} {d : D} {as : List At} (he : ∀ env, FEnv names env → EvTo W k env ρ e d) (hd : seqOf d = some as) (hl : xs.length = as.length)
    (hx : ∀ x ∈ xs, okStore names (od.map (·.1)) x = true) (hw : ∀ env, FEnv names env → swappedStores [.Tuple ts k1 p1] e env = pure (some xs)) :
    ExS W k names (.Assign [.Tuple ts k1 p1] e pos) (ρ, od) (setAll ρ xs.reverse as.reverse, od) .next := fun A s hb env ow Q rm F om S q => by
  refine Assign_Tuple_swapped (names := xs) (he env F A s _ rm S.ok F.ok S.rd fun v s₁ x₁ r₁ => ?_) sole_tuple (hw env F)
  rw [hl]
  refine unpackItems_to rm.1 (S.ok.ext x₁) hd r₁ fun vs s₂ x₂ r₂ => ?_
  have x₁₂ := x₁.trans x₂
  obtain ⟨S₂, k₂⟩ := S.ext x₁₂
  refine store_all F xs.reverse _ vs.reverse as.reverse ρ s₂ (by simp) (fun i f x hf hx v s Q hq => ?_) (fun x hx' => by rw [om.name]; exact hx x (List.mem_reverse.mp hx')) (by simp [hl]) r₂.reverse S₂ fun s₃ st₃ S₃ => ?_
  · rw [List.getElem?_map, hx] at hf
    cases hf
    exact wpAny_bindName hq
  · exact (q.ext S x₁₂) _ s₃ _ ow st₃ (fun b hb => .inl hb) om S₃ (fun _ _ e => e) rfl

/-- an empty list that is ours -/
theorem ex_own {x : Str} {px p pos : Pos} {ρ : Rho} (hx : okName x = true) (hk : names.lookup x = some .local) (hr : ρ.lookup x = none) : ExS W k names (.Assign [.Name x px] (.List [] p) pos) (ρ, none) (ρ, some (x, [])) .next := fun A s hb env ow Q rm F om S q => by
  obtain rfl := om.none_iff
  have hkx : env.kindOf x = some .local := by unfold Env.kindOf; rw [F.names]; exact hk
  refine wpAny_Assign_Name (List_ (spliced_nil (wpAny_newObj_type ?_ (by show (0 : Nat) ≤ sizeLine; exact Nat.zero_le _)))) rfl
  generalize hH : s.heap.push { cls := .type "list", dict := none, data := .seq ([] : List Value).toArray } = H
  have kp : Keep s.heap H := fun b o e => hH ▸ Heap.get?_push_of_some _ e
  have nl : s.heap.get? s.heap.objs.size = none := Heap.get?_none_of_le (Nat.le_refl _)
  have hl : H.get? s.heap.objs.size = some { cls := .type "list", data := .seq (List.toArray ([] : List Value)) 0 } := hH ▸ Heap.get?_push_size _ rfl
  have hlt : s.heap.objs.size ∉ tabs := S.ok.1.big (Nat.le_refl _)
  generalize s.heap.objs.size = l at nl hl hlt
  have x₁ : Ext s { s with heap := H } := Ext.of_keep (tk := s.toks) kp
  obtain ⟨m, hn, hm, _⟩ := S.ns
  have hn₁ : H.Ns env.locals m := hn.keeps kp
  refine wpAny_storeName_local hkx hn₁ (fun h' hn' hs' => ?_) (by rw [F.ok.kind]; rfl)
  have hLt : env.locals ∉ tabs := S.mt _ mem_locals
  have memu : ∀ b ∈ muOf env (some (x, l, [])), b ∈ muOf env none ∨ b = l := fun b hb => by
    rcases List.mem_cons.mp hb with rfl | hb
    · exact .inl (.head _)
    · rcases List.mem_append.mp hb with hb | hb
      · exact .inl (.tail _ (List.mem_append.mpr (.inl hb)))
      · simp only [owL, List.mem_cons, List.not_mem_nil, or_false] at hb; exact .inr hb
  have hlL : l ≠ env.locals := fun e => by
    obtain ⟨o, es, ep, ho, _⟩ := hn
    rw [← e, nl] at ho; cases ho
  have hl' : h'.get? l = some { cls := .type "list", data := .seq (List.toArray ([] : List Value)) 0 } := (hs'.2 l hlL).trans hl
  have sx : SExt (muOf env none) { s with heap := H } { s with heap := h', toks := s.toks + 1 } := (SExt.at (s := { s with heap := H }) (tk := s.toks + 1) hs' hLt).weak fun b hb => by
    simp only [List.mem_cons, List.not_mem_nil, or_false] at hb; subst hb; exact mem_locals
  obtain ⟨S₁, k₁⟩ := S.ext x₁
  have hLa : (h'.get? env.locals).isSome := by obtain ⟨o, _, _, e, _⟩ := hn'; rw [e]; rfl
  have all : ∀ b, (H.get? b).isSome → (h'.get? b).isSome := fun b e => by
    by_cases hb : b = env.locals
    · rw [hb]; exact hLa
    · rw [hs'.2 b hb]; exact e
  have stp : Stp (muOf env none) { s with heap := H } { s with heap := h', toks := s.toks + 1 } := ⟨sx, all⟩
  have stp' := (Stp.of (mu := muOf env none) x₁).chain stp (fun b hb => .inl hb) S₁.ti S.al
  have hbl : hb.get? l = none := by
    cases e : hb.get? l with
    | none => rfl
    | some o => have := of_gh (S.keep l o e); rw [nl] at this; cases this
  have ti' : TI (muOf env (some (x, l, []))) h' := by
    have t1 : TI (l :: muOf env none) H := S.ti.fresh kp nl
    have t2 : TI (l :: muOf env none) h' := t1.step (h' := h') sx.tab (fun b hb => by
      rcases List.mem_cons.mp hb with rfl | hb
      · show (H.get? _).isSome; rw [hl]; rfl
      · exact S₁.al b hb) fun b o hb e => sx.kp b o (fun mm => hb (.tail _ mm)) e
    exact t2.mono fun b hb => (memu b hb).elim (fun h => .tail _ h) fun h => by rw [h]; exact .head _
  refine q _ _ hb (some (x, l, [])) stp' (fun b hb => (memu b hb).elim .inl fun h => .inr (by rw [h]; exact nl)) ⟨rfl, rfl⟩ ?_ (fun _ _ e => e) rfl
  refine ⟨S.base, fun b o e => ?_, fun b hb => ?_, fun b hb => ?_, fun b hb => ?_, ti', S.apart, ⟨_, hn', fun y d h1 h2 => ?_, ?_⟩, fun y c hc => ?_, fun y d h1 h2 => ?_, S.kinds⟩
  · exact sx.kp b o (fun mm => by rw [S.hbm b mm] at e; cases e) (x₁.kp' b o (S.keep b o e))
  · rcases memu b hb with h | h
    · exact S.hbm b h
    · rw [h]; exact hbl
  · rcases memu b hb with h | h
    · exact S.mt b h
    · rw [h]; exact hlt
  · rcases memu b hb with h | h
    · exact stp'.all b (S.al b h)
    · show (h'.get? b).isSome; rw [h, hl']; rfl
  · have hyx : y ≠ x := fun q => by rw [q, hr] at h1; cases h1
    obtain ⟨v, hv, r⟩ := hm y d h1 h2
    exact ⟨v, by simp [hyx, hv], r⟩
  · exact ⟨hkx, hx, hr, by simp, [], 0, hl', trivial⟩
  · obtain ⟨u, o, ho, hd⟩ := S.cells y c hc
    exact ⟨u, o, (hs'.2 c (S.locals_ne_cell hc)).trans (kp _ _ ho), hd⟩
  · obtain ⟨c, u, hc, ⟨o, ho, hd⟩, r⟩ := S.cell y d h1 h2
    exact ⟨c, u, hc, ⟨o, (hs'.2 c (S.locals_ne_cell (mem_of_lookup hc))).trans (kp _ _ ho), hd⟩, r⟩
end
end Mine
end
section
open PySem PySem.W PySem.Calls PyProof.Rows PySem.Spec PySem.SeqAt PySem.SeqRoads2 PySem.MeetsSeq
set_option Elab.async false
set_option maxRecDepth 100000
set_option linter.unusedVariables false
namespace Mine
section
variable {W : Wd} {k : Nat} {names : Names}
theorem Stt.setOwn {hb : Heap} {env : Env} {ρ : Rho} {y : Str} {l : Addr} {items items' : List At} {s : Shared} {h' : Heap} {tk : Nat} {ws : List Value} {n' : Nat} (S : Stt W hb env ρ (some (y, l, items)) s) (hs' : Heap.SameBut l s.heap h')
    (hl' : h'.get? l = some { cls := .type "list", data := .seq ws.toArray n' }) (r : AReps ws items') :
    Stt W hb env ρ (some (y, l, items')) { s with heap := h', toks := tk } ∧ Stp (muOf env (some (y, l, items))) s { s with heap := h', toks := tk } := by
  have hlm : l ∈ muOf env (some (y, l, items)) := .tail _ (List.mem_append.mpr (.inr (.head _)))
  have sx : SExt (muOf env (some (y, l, items))) s { s with heap := h', toks := tk } := (SExt.at (tk := tk) hs' (S.mt l hlm)).weak fun b hb => by
    simp only [List.mem_cons, List.not_mem_nil, or_false] at hb; subst hb; exact hlm
  have all : ∀ b, (s.heap.get? b).isSome → (h'.get? b).isSome := fun b e => by
    by_cases hb : b = l
    · rw [hb, hl']; rfl
    · rw [hs'.2 b hb]; exact e
  obtain ⟨m, hn, hm, h1, h2, h3, h4, vs, n, h5, h6⟩ := S.ns
  have hLl : env.locals ≠ l := fun e => ns_notSeq hn _ (e ▸ h5) _ _ rfl
  have hcl : ∀ x c, (x, c) ∈ env.cells → c ≠ l := fun x c hc e => by
    obtain ⟨v, hv⟩ := S.cells x c hc
    exact cell_notSeq hv _ (e ▸ h5) _ _ rfl
  refine ⟨⟨S.base, fun b o e => sx.kp b o (fun mm => by rw [S.hbm b mm] at e; cases e) (S.keep b o e), S.hbm, S.mt, fun b hb => all b (S.al b hb), S.ti.step sx.tab S.al sx.kp, S.apart, ⟨m, hn.sameBut hs' hLl, hm, h1, h2, h3, h4, ws, n', hl', r⟩, fun x c hc => ?_, fun x d e1 e2 => ?_, S.kinds⟩, sx, all⟩
  · obtain ⟨v, o, ho, hd⟩ := S.cells x c hc
    exact ⟨v, o, (hs'.2 c (hcl x c hc)).trans ho, hd⟩
  · obtain ⟨c, v, hc, ⟨o, ho, hd⟩, rr⟩ := S.cell x d e1 e2
    exact ⟨c, v, hc, ⟨o, (hs'.2 c (hcl x c (mem_of_lookup hc))).trans ho, hd⟩, rr⟩
theorem inter_fn {env : Env} (E : EnvOK env) : interactive env = false := by unfold interactive; rw [E.kind]; rfl

/-- a method of a list of ours, as a statement -/
theorem own_meth {y name : Str} {id : String} {args : List Expr} {ds : List D} {p apos cpos pos : Pos} {ρ : Rho} {A : Around} {s : Shared} {hb : Heap} {env : Env} {l : Addr} {items : List At} {Q : Flow → Shared → Prop}
    (rm : Room k A) (F : FEnv names env) (S : Stt W hb env ρ (some (y, l, items)) s) (slot : Slot "list" name id) (hty : typeOf (.builtin id) = pure (.type "method_descriptor")) (hp : (apos.endLine == cpos.line) = true) (hl : args.length < 30)
    (ha : EvTos W k env ρ args ds)
    (q : ∀ vs s₁, Ext s s₁ → Reps (gh s₁.heap) vs ds → Stt W (stable env (some (y, l, items)) s₁.heap) env ρ (some (y, l, items)) s₁ → wpF W A (call (.builtin id) (.ref l :: vs)) (fun v s' => v = .none ∧ Q .next s') s₁) :
    wpF W A (exec (.Expr (.Call (.Attribute (.Name y p) name apos) args [] cpos) pos) env) Q s := by
  refine wpAny_Expr ?_ (inter_fn F.ok) rfl
  obtain ⟨m, hn, hm, h1, h2, h3, h4, vs, n, h5, h6⟩ := S.ns
  show wpF W A (do
    let ov ← attributeBase (.Name y p) name env (eval (.Name y p) env)
    standAt apos.atName
    methodCall (.Name y p) name apos cpos env ov (args.length + ([] : List Keyword).length) (backTo cpos (starEach args env)) (backToKw cpos (keywordEach [] env))) _ s
  rw [base_plain rfl]
  refine wpAny_bind (wpAny_Name (wpAny_loadName_local F.ok.kind h1 hn h4 (wpAny_bind (wpAny_standAt ?_))) (okName_1 h2))
  have hf := plain_form (n := 0) (pos := cpos) ha hl
  unfold methodCall
  rw [hf]
  refine wpAny_bind (wpAny_holding ?_)
  unfold calleeOf
  rw [if_pos rfl]
  refine getMethod_builtin (isList_of h5).typeIs PySem.F.plainAttrs_list slot hty (fun a e => by cases e; exact ⟨_, h5, rfl⟩) ?_
  dsimp only
  refine wpAny_bind ?_
  unfold methodCallPos
  rw [hp]
  refine wpAny_pure ?_
  refine callWith_builtin (plain_args ha) (ev_args ha A s _ rm S.ok F.ok S.rd fun us s₁ x₁ r₁ => ?_)
  refine wpAny_mono (q us s₁ x₁ r₁ (S.ext x₁).1) (fun v s' hv => ?_) fun _ _ f => f
  obtain ⟨rfl, hq⟩ := hv
  exact hq
theorem ex_append {y : Str} {e : Expr} {p apos cpos pos : Pos} {ρ : Rho} {items : List At} {a : At} (he : ∀ env, FEnv names env → EvTo W k env ρ e (.at a)) (hpl : plainArg e = true) (hp : (apos.endLine == cpos.line) = true) (hl : items.length ≤ 100000) :
    ExS W k names (.Expr (.Call (.Attribute (.Name y p) (Str.ofString "append") apos) [e] [] cpos) pos) (ρ, some (y, items)) (ρ, some (y, items ++ [a])) .next := fun A s hb env ow Q rm F om S q => by
  match ow, om, S, q with
  | some (y', l, items'), om, S, q =>
    obtain ⟨rfl, rfl⟩ := om
    refine own_meth rm F S slot_list_append PySem.F.type_list_append hp (by show 1 < 30; decide) (.cons hpl (he env F) .nil) fun vs s₁ x₁ r₁ S₁ => ?_
    obtain ⟨v, rfl, rv⟩ := reps1 r₁
    obtain ⟨m, hn, hm, h1, h2, h3, h4, ws, n, h5, h6⟩ := S₁.ns
    refine wpAny_list_append_plain (hsz := by rw [List.size_toArray, h6.length]; exact sizeLine_big hl) ⟨n, h5⟩ fun h' hl' hs' => ⟨rfl, ?_⟩
    obtain ⟨n', hl'⟩ := hl'
    obtain ⟨S₂, st₂⟩ := S₁.setOwn (tk := s₁.toks) (ws := ws ++ [v]) (n' := n') hs' (by rw [show (ws ++ [v]).toArray = ws.toArray.push v by simp]; exact hl') (h6.append (bs := [a]) ⟨rv, trivial⟩)
    exact (q.ext S x₁) _ _ _ (some (y, l, items ++ [a])) st₂ (fun b hb => .inl hb) ⟨rfl, rfl⟩ S₂ (fun _ _ e => e) rfl
theorem ex_reverse {y : Str} {p apos cpos pos : Pos} {ρ : Rho} {items : List At} (hp : (apos.endLine == cpos.line) = true) (hl : items.length ≤ 100000) :
    ExS W k names (.Expr (.Call (.Attribute (.Name y p) (Str.ofString "reverse") apos) [] [] cpos) pos) (ρ, some (y, items)) (ρ, some (y, items.reverse)) .next := fun A s hb env ow Q rm F om S q => by
  match ow, om, S, q with
  | some (y', l, items'), om, S, q =>
    obtain ⟨rfl, rfl⟩ := om
    refine own_meth rm F S PySem.F.slot_list_reverse PySem.F.type_list_reverse hp (by show 0 < 30; decide) .nil fun vs s₁ x₁ r₁ S₁ => ?_
    match vs, r₁ with
    | [], _ =>
      obtain ⟨m, hn, hm, h1, h2, h3, h4, ws, n, h5, h6⟩ := S₁.ns
      have hty : s₁.TypeIs (.ref l) "list" := ⟨_, h5, rfl⟩
      refine call_meets PySem.F.slot_list_reverse hty PySem.F.entry_list_reverse (PySem.F.args_list_reverse_1 _) (AutoSeq1.list_reverse_list_0 l ws.toArray n (by rw [List.size_toArray, h6.length]; exact sizeLine_big hl)) ⟨h5, rfl, ?_⟩
      obtain ⟨S₂, st₂⟩ := S₁.setOwn (tk := s₁.toks) (ws := ws.reverse) (n' := n) (Heap.SameBut.update s₁.heap l (Obj.mapSeq fun x => x.reverse)) (by rw [Heap.get?_update_self _ h5 (by rw [mapSeq_reverse]; rfl), mapSeq_reverse]) h6.reverse
      exact (q.ext S x₁) _ _ _ (some (y, l, items.reverse)) st₂ (fun b hb => .inl hb) ⟨rfl, rfl⟩ S₂ (fun _ _ e => e) rfl
end
end Mine
end
section
open PySem PySem.W PySem.Calls PyProof.Rows PySem.Spec PySem.SeqAt PySem.SeqRoads2 PySem.MeetsSeq
set_option Elab.async false
set_option maxRecDepth 100000
set_option linter.unusedVariables false
namespace Mine
theorem TI.union {X Y : List Addr} {h : Heap} (x : TI X h) (y : TI Y h) : TI (X ++ Y) h := fun t ht => by
  obtain ⟨ps, hp, hok, hx⟩ := x t ht
  obtain ⟨ps', hp', _, hy⟩ := y t ht
  rw [hp] at hp'
  have e : ps = ps' := by
    have := Option.some.inj hp'
    unfold tabObj at this
    simpa using this
  subst e
  refine ⟨ps, hp, hok, ?_⟩
  rcases hx with hx | ⟨c, hc, hcX, hr⟩
  · exact .inl hx
  · rcases hy with hy | ⟨c', hc', hcY, _⟩
    · exact .inl hy
    · rw [hc] at hc'
      cases hc'
      exact .inr ⟨c, hc, fun m => (List.mem_append.mp m).elim hcX hcY, hr⟩
section
variable {W : Wd} {hb hb₂ : Heap} {env : Env} {ρ : Rho} {ow : Ow} {s s' : Shared}
theorem Stt.ext2 (S : Stt W hb env ρ ow s) (e : Ext s s') (k : Keep hb hb₂) (k2 : Keep hb₂ (gh s'.heap)) (hm2 : ∀ b ∈ muOf env ow, hb₂.get? b = none) : Stt W hb₂ env ρ ow s' := by
  have up : ∀ b ∈ muOf env ow, ∀ o, s.heap.get? b = some o → s'.heap.get? b = some o := fun b hb o q => of_gh (e.kp' b o (gh_get q (S.mt b hb)))
  refine ⟨fun b o q => k b o (S.base b o q), k2, hm2, S.mt, fun b hb => e.al b (fun m => nomatch m) (S.al b hb), S.ti.step e.tab S.al fun b o _ q => e.kp' b o q, S.apart, ?_, ?_, ?_, S.kinds⟩
  · obtain ⟨m, hn, hm, ho⟩ := S.ns
    refine ⟨m, hn.at' fun o q => up _ mem_locals o q, fun x d h1 h2 => ?_, ?_⟩
    · obtain ⟨v, h3, h4⟩ := hm x d h1 h2
      exact ⟨v, h3, h4.keeps k⟩
    · exact ho.mono fun y l items e h3 h4 o h5 _ => ⟨h3, h4, up l (e ▸ mem_own) o h5⟩
  · intro x c hc
    obtain ⟨v, o, ho, hd⟩ := S.cells x c hc
    exact ⟨v, o, up c (mem_cells hc) o ho, hd⟩
  · intro x d h1 h2
    obtain ⟨c, v, hc, ⟨o, ho, hd⟩, r⟩ := S.cell x d h1 h2
    exact ⟨c, v, hc, ⟨o, up c (mem_cells (mem_of_lookup hc)) o ho, hd⟩, r.keeps k⟩
/-- a step over objects that are none of ours -/
theorem Stt.aside {mu : List Addr} (S : Stt W hb env ρ ow s) (x : SExt mu s s') (hd : ∀ b ∈ mu, b ∉ muOf env ow ∧ hb.get? b = none) (ti : TI mu s.heap) (al : ∀ b ∈ mu, (s.heap.get? b).isSome) : Stt W hb env ρ ow s' ∧ TI mu s'.heap := by
  have up : ∀ b ∈ muOf env ow, ∀ o, s.heap.get? b = some o → s'.heap.get? b = some o := fun b hb o q => of_gh (x.kp b o (fun m => (hd b m).1 hb) (gh_get q (S.mt b hb)))
  have t2 : TI (mu ++ muOf env ow) s'.heap := (ti.union S.ti).step x.tab (fun b hb => (List.mem_append.mp hb).elim (al b) (S.al b)) fun b o hb e => x.kp b o (fun m => hb (List.mem_append.mpr (.inl m))) e
  refine ⟨⟨S.base, fun b o q => x.kp b o (fun m => by rw [(hd b m).2] at q; cases q) (S.keep b o q), S.hbm, S.mt, fun b hb => x.al b (fun m => (hd b m).1 hb) (S.al b hb), t2.mono fun b hb => List.mem_append.mpr (.inr hb), S.apart, ?_, ?_, ?_, S.kinds⟩, t2.mono fun b hb => List.mem_append.mpr (.inl hb)⟩
  · obtain ⟨m, hn, hm, ho⟩ := S.ns
    refine ⟨m, hn.at' fun o q => up _ mem_locals o q, hm, ?_⟩
    exact ho.mono fun y l items e h3 h4 o h5 _ => ⟨h3, h4, up l (e ▸ mem_own) o h5⟩
  · intro x c hc
    obtain ⟨v, o, ho, hd⟩ := S.cells x c hc
    exact ⟨v, o, up c (mem_cells hc) o ho, hd⟩
  · intro x d h1 h2
    obtain ⟨c, v, hc, ⟨o, ho, hd⟩, r⟩ := S.cell x d h1 h2
    exact ⟨c, v, hc, ⟨o, up c (mem_cells (mem_of_lookup hc)) o ho, hd⟩, r⟩
end

noncomputable def swE (names : Names) (t : Str) (p : Pos) (e : Expr) : Option Bool := match e with
  | .ListComp _ _ s q => some (names.lookup t == some .local && p.line == q.line && !(s.names.any fun (n, k) => n == t && (k == .local || k == .cell)))
  | e => if (Nat.blt 5 (tagE e) && Nat.blt (tagE e) 8) = true then none else some false
theorem swE_eq {names : Names} {env : Env} (F : FEnv names env) {t : Str} {p : Pos} {line : Nat} {e : Expr} {b : Bool} (h : swE names t p e = some b) : swapsWith e (some (.Name t p)) line env = pure b := by
  cases e with
  | ListComp a g s q =>
    obtain rfl := Option.some.inj h
    unfold swapsWith
    have hk : env.kindOf t = names.lookup t := by unfold Env.kindOf; rw [F.names]
    simp only [block_fn F.ok, hk]
    rfl
  | SetComp _ _ _ _ => exact no_some h
  | DictComp _ _ _ _ _ => exact no_some h
  | _ => obtain rfl : false = b := Option.some.inj h; rfl
section
variable {W : Wd} {k : Nat} {names : Names}
theorem ex_comp {x y : Str} {px py pos spos : Pos} {elt iter : Expr} {ifs : List Expr} {scope : Scope} {ρ : Rho} {d : D} {as bs : List At}
    (hi : ∀ env, FEnv names env → EvTo W k env ρ iter d) (hit : ItV W d as) (hs : notSet iter = true) (hl : compLook scope.names names scope.kind x ρ = true) (hall : ∀ cl env, CompAll W k scope cl env x ifs elt (innerOf scope.names ρ) as bs) (hsz : as.length ≤ 100000)
    (hsw : swE names y py (.ListComp elt [⟨.Name x px, iter, ifs, 0⟩] scope pos) = some true) (hy : okStore names none y = true) :
    ExS W k names (.Assign [.Name y py] (.ListComp elt [⟨.Name x px, iter, ifs, 0⟩] scope pos) spos) (ρ, none) (setR ρ y (.lst bs), none) .next := fun A s hb env ow Q rm F om S q => by
  obtain rfl := om.none_iff
  obtain ⟨h1, h2, h3⟩ := okStore_at F hy
  unfold wpF
  rw [exec_Assign_Name_used _ _ _ _ (swE_eq F hsw)]
  refine wpAny_bind (wpAny_standAt (wpAny_bind ?_))
  have co : CompOK scope (clOf scope.names env.cells []) env x := compOK_of (by rw [← F.names]; exact KindOK.self) hl S.rd
  show wpAny _ A (do let _ ← comprehension (.ListComp elt [⟨.Name x px, iter, ifs, 0⟩] scope pos) scope env _ (newList []) false (eval iter env) (some (assign (.Name y py) env))) _ _ s
  refine wpAny_bind (wpAny_mono (wpAny_comprehension_free (use := some (assign (.Name y py) env)) (Q := fun _ s' => Q .next s') rfl (folded_plain hs) co.clos co.kind co.names (hi env F A s _ rm S.ok F.ok S.rd fun v s₁ x₁ r₁ => ?_)) (fun _ s' hq => wpAny_pure (wpAny_pure hq)) fun _ _ e => e)
  have ok₁ := S.ok.ext x₁
  refine hit A s₁ v _ rm.1 ok₁ r₁ fun s₂ I fp wr P St w => ?_
  refine comp_core w co rm ok₁ F.ok (S.rd.keeps x₁.kp') (hall _ env) hsz fun Dl C s' e r hn hC hCt hDC ti => ?_
  obtain ⟨m, hn⟩ := hn
  have x' : Ext s s' := x₁.trans e
  have fr : s.heap.get? C = none := by
    cases q : s.heap.get? C with
    | none => rfl
    | some o => have := x₁.al C (fun m => nomatch m) (by rw [q]; rfl); rw [hC] at this; cases this
  have hCm : C ∉ muOf env none := fun m => by have := S.al C m; rw [fr] at this; cases this
  have hbC : hb.get? C = none := by
    cases q : hb.get? C with
    | none => rfl
    | some o => have := of_gh (S.keep C o q); rw [fr] at this; cases this
  have k₂ : Keep hb (hideAll (gh s'.heap) (C :: muOf env none)) := fun b o q => hideAll_get _ (x'.kp' b o (S.keep b o q)) fun m => by
    rcases List.mem_cons.mp m with rfl | m
    · rw [hbC] at q; cases q
    · rw [S.hbm b m] at q; cases q
  have S' : Stt W (hideAll (gh s'.heap) (C :: muOf env none)) env ρ none s' := S.ext2 x' k₂ (fun b o q => of_hideAll _ q) fun b hb => hideAll_none _ (.tail _ hb)
  have r' : Rep (hideAll (gh s'.heap) (C :: muOf env none)) (.ref Dl) (.lst bs) := r.hide rfl fun b hb o eo => by
    rcases List.mem_cons.mp hb with rfl | hb
    · exact ns_notSeq hn o (of_gh eo)
    · rcases List.mem_cons.mp hb with rfl | hb
      · obtain ⟨m, hn, _⟩ := S'.ns
        exact ns_notSeq hn o (of_gh eo)
      · simp only [owL, List.append_nil] at hb
        obtain ⟨⟨x, c⟩, hm, rfl⟩ := List.mem_map.mp hb
        obtain ⟨v, hv⟩ := S'.cells x c hm
        exact cell_notSeq hv o (of_gh eo)
  show wpAny _ A (assign (.Name y py) env (.ref Dl)) _ _ s'
  refine wpAny_assign_Name (S'.store F.ok h1 h2 r' rfl h3 fun s'' st S'' => ?_)
  have hn'' : s''.heap.Ns C m := hn.at' fun o eo => of_gh (st.x.kp C o hCm (gh_get eo hCt))
  refine ⟨m, hn'', fun h₃ hs₃ => ?_⟩
  have alC' : (s'.heap.get? C).isSome := by obtain ⟨o, _, _, eo, _⟩ := hn; rw [eo]; rfl
  have alC : (s''.heap.get? C).isSome := by obtain ⟨o, _, _, eo, _⟩ := hn''; rw [eo]; rfl
  have tiC : TI [C] s''.heap := ((ti.union S'.ti).step st.x.tab (fun b hb => by
      rcases List.mem_append.mp hb with hb | hb
      · simp only [List.mem_cons, List.not_mem_nil, or_false] at hb; subst hb; exact alC'
      · exact S'.al b hb) fun b o hb eo => st.x.kp b o (fun m => hb (List.mem_append.mpr (.inr m))) eo).mono fun b hb => List.mem_append.mpr (.inl hb)
  have sx3 : SExt [C] s'' { s'' with heap := h₃ } := SExt.at (tk := s''.toks) hs₃ hCt
  obtain ⟨S₃, _⟩ := S''.aside sx3 (fun b hb => by
    simp only [List.mem_cons, List.not_mem_nil, or_false] at hb; subst hb
    exact ⟨hCm, hideAll_none _ (.head _)⟩) tiC (fun b hb => by
    simp only [List.mem_cons, List.not_mem_nil, or_false] at hb; subst hb; exact alC)
  have stA : Stp (muOf env none) s s'' := (Stp.of x').chain st (fun b hb => .inl hb) S'.ti S.al
  have stB : Stp (muOf env none) s { s'' with heap := h₃ } := ⟨stA.x.chain sx3 (fun b hb => by
    simp only [List.mem_cons, List.not_mem_nil, or_false] at hb; subst hb; exact .inr fr) tiC fun b hb => stA.all b (S.al b hb), fun b eb => by
    have hbC : b ≠ C := fun e => by rw [e, fr] at eb; cases eb
    show (h₃.get? b).isSome
    rw [hs₃.2 b hbC]; exact stA.all b eb⟩
  exact q _ { s'' with heap := h₃ } _ none stB (fun b hb => .inl hb) trivial S₃ k₂ rfl
end
end Mine
end
section
open PySem PySem.W PySem.Calls PyProof.Rows PySem.Spec PySem.SeqAt PySem.SeqRoads2 PySem.MeetsSeq
set_option Elab.async false
set_option maxRecDepth 100000
set_option linter.unusedVariables false
namespace Mine
section
variable {W : Wd} {hb : Heap} {env : Env} {ρ : Rho} {ow : Ow} {s s' : Shared} {k : Nat} {names : Names}
theorem Stt.shrink {X : List Addr} (S : Stt W hb env ρ ow s) (hX : ∀ b ∈ X, ∀ o, hb.get? b = some o → notSeq o) (hB : ∀ b ∈ X, W.base.get? b = none) : Stt W (hideAll hb X) env ρ ow s := by
  refine ⟨fun b o q => hideAll_get _ (S.base b o q) fun m => (by rw [hB b m] at q; cases q), fun b o q => S.keep b o (of_hideAll _ q), fun b hm => ?_, S.mt, S.al, S.ti, S.apart, ?_, S.cells, fun x d h1 h2 => ?_, S.kinds⟩
  · cases e : (hideAll hb X).get? b with
    | none => rfl
    | some o => have := of_hideAll _ e; rw [S.hbm b hm] at this; cases this
  · obtain ⟨m, hn, hm, ho⟩ := S.ns
    refine ⟨m, hn, fun x d h1 h2 => ?_, ho⟩
    obtain ⟨v, hv, r⟩ := hm x d h1 h2
    exact ⟨v, hv, r.hide (S.kinds x d h1).2.2 hX⟩
  · obtain ⟨c, v, hc, hv, r⟩ := S.cell x d h1 h2
    exact ⟨c, v, hc, hv, r.hide (S.kinds x d h1).2.2 hX⟩
/-- what an iteration draws from -/
noncomputable def ItE (W : Wd) (k : Nat) (env : Env) (ρ : Rho) (iter : Expr) (as : List At) : Prop := ∀ A s (Q : Value → Shared → Prop), Room k A → OK W s → EnvOK env → Rd env (gh s.heap) ρ →
  (∀ s₂ I fp wr P St, Walking W A s s₂ as I fp wr P St → Q (.ref I) s₂) → wpF W A (eval iter env) (fun x s₁ => wpF W A (pyIter x) Q s₁) s
theorem Walking.back {A : Around} {s₁ s₂ : Shared} {as : List At} {I : Addr} {fp wr : List Addr} {P : Nat → Value → Prop} {St : Nat → Heap → Prop} (x : Ext s s₁) (w : Walking W A s₁ s₂ as I fp wr P St) : Walking W A s s₂ as I fp wr P St :=
  { w with ext := x.trans w.ext, fresh := fun b hb => ⟨(by
      cases e : s.heap.get? b with
      | none => rfl
      | some o => have := x.al b (fun m => nomatch m) (by rw [e]; rfl); rw [(w.fresh b hb).1] at this; cases this), (w.fresh b hb).2⟩ }
theorem itE_of {iter : Expr} {d : D} {as : List At} (hi : EvTo W k env ρ iter d) (hit : ItV W d as) : ItE W k env ρ iter as := fun A s Q rm ok E R q =>
  hi A s _ rm ok E R fun v s₁ x₁ r₁ => hit A s₁ v _ rm.1 (ok.ext x₁) r₁ fun s₂ I fp wr P St w => q s₂ I fp wr P St (w.back x₁)

inductive Loop (W : Wd) (k : Nat) (names : Names) (x : Str) (body orelse : List Stmt) : List At → St → St → FlowD → Prop
  | done {st st' : St} {fl : FlowD} : ExL W k names orelse st st' fl → Loop W k names x body orelse [] st st' fl
  | turn {a : At} {as : List At} {ρ : Rho} {od : OwD} {st₁ st' : St} {fl : FlowD} : okStore names (od.map (·.1)) x = true → ExL W k names body (setR ρ x (.at a), od) st₁ .next → Loop W k names x body orelse as st₁ st' fl → Loop W k names x body orelse (a :: as) (ρ, od) st' fl
  | brk {a : At} {as : List At} {ρ : Rho} {od : OwD} {st' : St} : okStore names (od.map (·.1)) x = true → ExL W k names body (setR ρ x (.at a), od) st' .brk → Loop W k names x body orelse (a :: as) (ρ, od) st' .next
  | ret {a : At} {as : List At} {ρ : Rho} {od : OwD} {st' : St} {d : D} : okStore names (od.map (·.1)) x = true → ExL W k names body (setR ρ x (.at a), od) st' (.ret d) → Loop W k names x body orelse (a :: as) (ρ, od) st' (.ret d)

/-- between two turns of a loop -/
structure FInv (W : Wd) (k : Nat) (names : Names) (s : Shared) (hb : Heap) (mu fp wr : List Addr) (as : List At) (S0 : Nat → Heap → Prop) (env : Env) (i : Nat) (hb' : Heap) (ow' : Ow) (st₁ : St) (s' : Shared) : Prop where
  om : OwM st₁.2 ow'
  S : Stt W hb' env st₁.1 ow' s'
  st : S0 i s'.heap
  kp : Keep hb hb'
  wr1 : ∀ b ∈ wr, b ∉ muOf env ow' ∧ hb'.get? b = none
  ti : TI wr s'.heap
  fp1 : as ≠ [] → ∀ b ∈ fp, b ∉ muOf env ow' ∧ (s'.heap.get? b).isSome
  sx : Stp mu s s'
  hm : ∀ b ∈ muOf env ow', b ∈ mu ∨ s.heap.get? b = none

theorem own_empty {m : Str → Option Value} {h : Heap} {od : OwD} {b : Addr} (hown : OwnIs env ρ m h ow) (om : OwM od ow) (hod : od = none ∨ ∃ y, od = some (y, [])) (hm : b ∈ owL ow) : ∃ o n, h.get? b = some o ∧ o.data = .seq #[] n := by
  rcases ow with _ | ⟨y, l, items⟩
  · exact nomatch hm
  obtain rfl : b = l := List.mem_singleton.mp hm
  obtain ⟨_, _, _, _, vs, n, h5, h6⟩ := hown
  rcases hod with rfl | ⟨y', rfl⟩
  · exact om.elim
  obtain ⟨rfl, rfl⟩ := om
  have : vs = [] := List.length_eq_zero_iff.mp (by rw [h6.length]; rfl)
  subst this
  exact ⟨_, n, h5, rfl⟩
set_option maxHeartbeats 1000000 in
theorem ex_for {x : Str} {px pos : Pos} {iter : Expr} {body orelse : List Stmt} {as : List At} {ρ : Rho} {od : OwD} {st' : St} {fl : FlowD} (hi : ∀ env, FEnv names env → ItE W k env ρ iter as) (hs : notSet iter = true) (hod : od = none ∨ ∃ y, od = some (y, []))
    (hl : Loop W k names x body orelse as (ρ, od) st' fl) : ExS W k names (.For (.Name x px) iter body orelse pos) (ρ, od) st' fl := fun A s hb env ow Q rm F om S q => by
  refine wpAny_For (hi env F A s _ rm S.ok F.ok S.rd fun s₂ I fp wr P S0 w => ?_) (folded_plain hs)
  have wrs : ∀ b ∈ wr, s.heap.get? b = none := fun b hb => (w.fresh b hb).1
  have wrm : ∀ b ∈ wr, b ∉ muOf env ow := fun b hb m => by have := S.al b m; rw [wrs b hb] at this; cases this
  have wrh : ∀ b ∈ wr, hb.get? b = none := fun b hw => by
    cases e : hb.get? b with
    | none => rfl
    | some o => have := of_gh (S.keep b o e); rw [wrs b hw] at this; cases this
  have wrb : ∀ b ∈ wr, W.base.get? b = none := fun b hw => by
    cases e : W.base.get? b with
    | none => rfl
    | some o => have := S.base b o e; rw [wrh b hw] at this; cases this
  have kp0 : Keep hb (hideAll (gh s₂.heap) (wr ++ muOf env ow)) := fun b o e => hideAll_get _ (w.ext.kp' b o (S.keep b o e)) fun m => by
    rcases List.mem_append.mp m with m | m
    · rw [wrh b m] at e; cases e
    · rw [S.hbm b m] at e; cases e
  have S₂ : Stt W (hideAll (gh s₂.heap) (wr ++ muOf env ow)) env ρ ow s₂ := S.ext2 w.ext kp0 (fun b o e => of_hideAll _ e) fun b hb => hideAll_none _ (List.mem_append.mpr (.inr hb))
  have inv0 : FInv W k names s hb (muOf env ow) fp wr as S0 env 0 (hideAll (gh s₂.heap) (wr ++ muOf env ow)) ow (ρ, od) s₂ :=
    { om := om, S := S₂, st := w.st, kp := kp0
      wr1 := fun b hb => ⟨wrm b hb, hideAll_none _ (List.mem_append.mpr (.inl hb))⟩
      ti := w.ti
      fp1 := fun ha b hb => by
        obtain ⟨o, ho, hbusy⟩ := w.busy ha b hb
        refine ⟨fun m => ?_, by rw [ho]; rfl⟩
        obtain ⟨mm, hn, hmm, hown⟩ := S₂.ns
        rcases List.mem_cons.mp m with rfl | m
        · obtain ⟨o', es, ep, ho', hd, _⟩ := hn
          rw [ho] at ho'; cases ho'
          rcases hbusy with ⟨_, _, e, _⟩ | ⟨_, e⟩ <;> (rw [hd] at e; cases e)
        · rcases List.mem_append.mp m with m | m
          · obtain ⟨⟨y, c⟩, hc, e⟩ := List.mem_map.mp m
            simp only at e
            obtain ⟨v, o', ho', hd⟩ := S₂.cells y c hc
            rw [e, ho] at ho'; cases ho'
            rcases hbusy with ⟨_, _, e, _⟩ | ⟨_, e⟩ <;> (rw [hd] at e; cases e)
          · obtain ⟨o', n, ho', hd⟩ := own_empty hown om hod m
            rw [ho] at ho'; cases ho'
            rcases hbusy with ⟨_, _, e, hz⟩ | ⟨_, e⟩
            · rw [hd] at e; cases e; exact hz rfl
            · rw [hd] at e; cases e
      sx := .of w.ext
      hm := fun b hb => .inl hb }
  refine codeAny_forLoop (fun j s' => ∃ i hb' ow' st₁, j = as.length + 1 - i ∧ i ≤ as.length ∧ Loop W k names x body orelse (as.drop i) st₁ st' fl ∧ FInv W k names s hb (muOf env ow) fp wr as S0 env i hb' ow' st₁ s') ?_ (as.length + 1) ⟨0, _, ow, (ρ, od), by simp, Nat.zero_le _, by simpa using hl, inv0⟩
  rintro j s' ⟨i, hb', ow', st₁, rfl, hi', hlp, v⟩
  by_cases hlt : i < as.length
  · refine w.walks.item i s' _ _ hlt v.st fun u h₂ tk hP hst₂ hk => ?_
    have hne : as ≠ [] := fun e => by rw [e] at hlt; exact absurd hlt (Nat.not_lt_zero _)
    obtain ⟨a, ha, ra⟩ := w.item i u hlt hP
    have hdrop : as.drop i = a :: as.drop (i + 1) := by
      rw [List.drop_eq_getElem_cons hlt]
      rw [List.getElem?_eq_getElem hlt] at ha
      cases ha; rfl
    rw [hdrop] at hlp
    have sx3 : SExt wr s' { s' with heap := h₂, toks := tk } := SExt.but (fun b o hb e => hk b o hb e) fun b hb => (w.fresh b hb).2
    have alw : ∀ b ∈ wr, (s'.heap.get? b).isSome := w.live i _ v.st
    obtain ⟨S₃, ti₃⟩ := v.S.aside sx3 v.wr1 v.ti alw
    have st3 : Stp (muOf env ow) s { s' with heap := h₂, toks := tk } := ⟨v.sx.x.chain sx3 (fun b hb => .inr (wrs b hb)) v.ti fun b hb => v.sx.all b (S.al b hb), fun b eb => sx3.al b (fun m => by rw [wrs b m] at eb; cases eb) (v.sx.all b eb)⟩
    have alw₃ : ∀ b ∈ wr, (h₂.get? b).isSome := w.live (i + 1) _ hst₂
    have step : ∀ {ρ₁ : Rho} {od₁ : OwD} {st₂ : St} {fl' : FlowD}, st₁ = (ρ₁, od₁) → okStore names (od₁.map (·.1)) x = true → ExL W k names body (setR ρ₁ x (.at a), od₁) st₂ fl' → ∀ {Q' : Flow → Shared → Prop} {E' : Value → Shared → Prop},
        (∀ f s₅ hb₅ ow₅, FInv W k names s hb (muOf env ow) fp wr as S0 env (i + 1) hb₅ ow₅ st₂ s₅ → FlowR (gh s₅.heap) f fl' → Q' f s₅) →
        wpAny (model W.prog W.w) A (assign (.Name x px) env u) (fun _ s₂ => wpAny (model W.prog W.w) A (execs body env) Q' E' s₂) E' { s' with heap := h₂, toks := tk } := by
      rintro ρ₁ od₁ st₂ fl' rfl hx hbody Q' E' hq
      obtain ⟨h1, h2, h3⟩ := okStore_at F hx
      refine wp_false (wpAny_assign_Name (S₃.store F.ok h1 h2 (show Rep hb' u (.at a) from ra) rfl (by rw [v.om.name]; exact h3) fun s₄ st₄ S₄ => ?_))
      refine wp_false (hbody A s₄ hb' env ow' Q' rm F v.om S₄ fun f s₅ hb₅ ow₅ st₅ hm₅ om₅ S₅ kp₅ fr₅ => ?_)
      have st34 : Stp (muOf env ow') { s' with heap := h₂, toks := tk } s₅ := st₄.chain st₅ (fun b hb => .inl hb) S₄.ti S₃.al
      have hst₅ : S0 (i + 1) s₅.heap := w.walks.frame _ _ _ hst₂ fun b hb o e => of_gh (st34.x.kp b o (v.fp1 hne b hb).1 (gh_get e (w.fpt b hb)))
      have alive₄ : ∀ b, (h₂.get? b).isSome → (s₄.heap.get? b).isSome := fun b eb => st₄.all b eb
      have mu5 : ∀ b, (h₂.get? b).isSome → b ∉ muOf env ow' → b ∉ muOf env ow₅ := fun b eb hb m => (hm₅ b m).elim hb fun e => by have := alive₄ b eb; rw [e] at this; cases this
      have ti₅ : TI wr s₅.heap := ((ti₃.union S₃.ti).step st34.x.tab (fun b hb => (List.mem_append.mp hb).elim (alw₃ b) (S₃.al b)) fun b o hb e => st34.x.kp b o (fun m => hb (List.mem_append.mpr (.inr m))) e).mono fun b hb => List.mem_append.mpr (.inl hb)
      have S₆ : Stt W (hideAll hb₅ wr) env st₂.1 ow₅ s₅ := S₅.shrink (fun b hb o e => by
        obtain ⟨fs, hd⟩ := w.plain _ _ hst₅ b hb o (of_gh (S₅.keep b o e))
        intro vs n e'
        rw [hd] at e'; cases e') wrb
      refine hq f s₅ _ ow₅ ⟨om₅, S₆, hst₅, fun b o e => hideAll_get _ (kp₅ b o (v.kp b o e)) fun m => (by rw [wrh b m] at e; cases e), fun b hb => ⟨mu5 b (alw₃ b hb) (v.wr1 b hb).1, hideAll_none _ hb⟩, ti₅, fun _ b hb => ?_, ?_, fun b hb => ?_⟩ fr₅
      · have al₂ : (h₂.get? b).isSome := by
          by_cases hw : b ∈ wr
          · exact alw₃ b hw
          · exact sx3.al b hw (v.fp1 hne b hb).2
        exact ⟨mu5 b al₂ (v.fp1 hne b hb).1, st34.all b al₂⟩
      · exact st3.chain st34 v.hm S₃.ti S.al
      · rcases hm₅ b hb with h | h
        · exact v.hm b h
        · right
          cases e : s.heap.get? b with
          | none => rfl
          | some o => have := alive₄ b (st3.all b (by rw [e]; rfl)); rw [h] at this; cases this
    cases hlp with
    | turn hx hbody hrest =>
      refine step rfl hx hbody fun f s₅ hb₅ ow₅ v₅ fr₅ => ?_
      obtain rfl : f = .next := fr₅
      exact ⟨_, by (first | grind | omega), i + 1, hb₅, ow₅, _, rfl, hlt, hrest, v₅⟩
    | brk hx hbody =>
      refine step rfl hx hbody fun f s₅ hb₅ ow₅ v₅ fr₅ => ?_
      obtain rfl : f = .brk := fr₅
      exact q _ s₅ hb₅ ow₅ v₅.sx v₅.hm v₅.om v₅.S v₅.kp rfl
    | ret hx hbody =>
      refine step rfl hx hbody fun f s₅ hb₅ ow₅ v₅ fr₅ => ?_
      obtain ⟨r, rfl, rr⟩ := fr₅
      exact q _ s₅ hb₅ ow₅ v₅.sx v₅.hm v₅.om v₅.S v₅.kp ⟨r, rfl, rr⟩
  · have hie : i = as.length := by (first | grind | omega)
    subst hie
    rw [List.drop_length] at hlp
    refine w.walks.done s' _ _ v.st fun h₂ tk hk => ?_
    have sx3 : SExt wr s' { s' with heap := h₂, toks := tk } := SExt.but (fun b o hb e => hk b o hb e) fun b hb => (w.fresh b hb).2
    obtain ⟨S₃, ti₃⟩ := v.S.aside sx3 v.wr1 v.ti (w.live _ _ v.st)
    have st3 : Stp (muOf env ow) s { s' with heap := h₂, toks := tk } := ⟨v.sx.x.chain sx3 (fun b hb => .inr (wrs b hb)) v.ti fun b hb => v.sx.all b (S.al b hb), fun b eb => sx3.al b (fun m => by rw [wrs b m] at eb; cases eb) (v.sx.all b eb)⟩
    cases hlp with
    | done hor =>
      exact wp_false (hor A _ hb' env ow' _ rm F v.om S₃ (q.after st3 v.hm S₃.ti S.al v.kp))
end
end Mine
end
section
open PySem PySem.W PySem.Calls PyProof.Rows PySem.Spec PySem.SeqAt PySem.SeqRoads2 PySem.MeetsSeq
set_option Elab.async false
set_option maxRecDepth 100000
set_option linter.unusedVariables false
namespace Mine
theorem TI.freshAll {h h' : Heap} {X : List Addr} (x : TI [] h) (hk : Keep h h') (hX : ∀ b ∈ X, h.get? b = none) : TI X h' := fun t ht => by
  obtain ⟨ps, hp, hok, hx⟩ := x t ht
  refine ⟨ps, hk _ _ hp, hok, ?_⟩
  rcases hx with hx | ⟨c, hc, _, hr⟩
  · exact .inl hx
  · refine .inr ⟨c, hc, fun m => ?_, hr.keeps (gh_keep hk)⟩
    obtain ⟨o, ho⟩ := codeRec_alloc hr
    have := of_gh ho
    rw [hX c m] at this; cases this
theorem bindL_keep {kd : Str → Option NameKind} {x : Str} : ∀ (b : List (Str × Value)) (m : Str → Option Value), x ∉ b.map (·.1) → bindL kd b m x = m x
  | [], _, _ => rfl
  | (n, v) :: r, m, h => by
    simp only [List.map_cons, List.mem_cons, not_or] at h
    unfold bindL
    rw [bindL_keep r _ h.2]
    split
    · simp [h.1]
    · rfl
theorem bindC_keep {kd : Str → Option NameKind} {x : Str} : ∀ (b : List (Str × Value)) (m : Str → Option Value), x ∉ b.map (·.1) → bindC kd b m x = m x
  | [], _, _ => rfl
  | (n, v) :: r, m, h => by
    simp only [List.map_cons, List.mem_cons, not_or] at h
    unfold bindC
    rw [bindC_keep r _ h.2]
    split
    · rfl
    · simp [h.1]
theorem zip_fst_mem {x : Str} : ∀ {ps : List Str} {vs : List Value}, x ∈ (ps.zip vs).map (·.1) → x ∈ ps
  | [], _, h => by simp at h
  | _ :: _, [], h => by simp at h
  | p :: ps, v :: vs, h => by
    simp only [List.zip_cons_cons, List.map_cons, List.mem_cons] at h
    exact h.elim (fun e => by rw [e]; exact .head _) fun h => .tail _ (zip_fst_mem h)
theorem bindL_get {kd : Str → Option NameKind} {h : Heap} {x : Str} {d : D} (hk : kd x = some .local) : ∀ (ps : List Str) (vs : List Value) (ds : List D) (m : Str → Option Value), Reps h vs ds → ps.Nodup → (ps.zip ds).lookup x = some d → ∃ v, bindL kd (ps.zip vs) m x = some v ∧ Rep h v d
  | [], _, _, _, _, _, e => by simp at e
  | _ :: _, _, [], _, _, _, e => by simp at e
  | p :: ps, [], _ :: _, _, r, _, _ => r.elim
  | p :: ps, v :: vs, d' :: ds, m, r, hn, e => by
    rw [List.nodup_cons] at hn
    rw [List.zip_cons_cons, List.lookup_cons] at e
    rw [List.zip_cons_cons]
    unfold bindL
    cases hb : x == p with
    | true =>
      rw [hb] at e; cases e
      obtain rfl := eq_of_beq hb
      refine ⟨v, ?_, r.1⟩
      rw [bindL_keep _ _ fun m => hn.1 (zip_fst_mem m)]
      simp [hk]
    | false =>
      rw [hb] at e
      exact bindL_get hk ps vs ds _ r.2 hn.2 e
theorem bindC_get {kd : Str → Option NameKind} {h : Heap} {x : Str} {d : D} (hk : kd x = some .cell) : ∀ (ps : List Str) (vs : List Value) (ds : List D) (m : Str → Option Value), Reps h vs ds → ps.Nodup → (ps.zip ds).lookup x = some d → ∃ v, bindC kd (ps.zip vs) m x = some v ∧ Rep h v d
  | [], _, _, _, _, _, e => by simp at e
  | _ :: _, _, [], _, _, _, e => by simp at e
  | p :: ps, [], _ :: _, _, r, _, _ => r.elim
  | p :: ps, v :: vs, d' :: ds, m, r, hn, e => by
    rw [List.nodup_cons] at hn
    rw [List.zip_cons_cons, List.lookup_cons] at e
    rw [List.zip_cons_cons]
    unfold bindC
    cases hb : x == p with
    | true =>
      rw [hb] at e; cases e
      obtain rfl := eq_of_beq hb
      refine ⟨v, ?_, r.1⟩
      rw [bindC_keep _ _ fun m => hn.1 (zip_fst_mem m)]
      simp [hk]
    | false =>
      rw [hb] at e
      exact bindC_get hk ps vs ds _ r.2 hn.2 e
theorem lookup_nodup {x : Str} {c : Addr} : ∀ {l : List (Str × Addr)}, (l.map (·.1)).Nodup → (x, c) ∈ l → l.lookup x = some c
  | (y, a) :: r, hn, hm => by
    rw [List.map_cons, List.nodup_cons] at hn
    rw [List.lookup_cons]
    rcases List.mem_cons.mp hm with e | hm
    · cases e; simp
    · have : (x == y) = false := by
        cases hb : x == y with
        | false => rfl
        | true => exact absurd (List.mem_map.mpr ⟨_, hm, eq_of_beq hb⟩) hn.1
      rw [this]
      exact lookup_nodup hn.2 hm
theorem zip_mem {x : Str} {d : D} : ∀ {ps : List Str} {ds : List D}, (ps.zip ds).lookup x = some d → x ∈ ps ∧ d ∈ ds
  | [], _, e => by simp at e
  | _ :: _, [], e => by simp at e
  | p :: ps, d' :: ds, e => by
    rw [List.zip_cons_cons, List.lookup_cons] at e
    cases hb : x == p with
    | true => rw [hb] at e; cases e; rw [eq_of_beq hb]; exact ⟨.head _, .head _⟩
    | false => rw [hb] at e; exact ⟨.tail _ (zip_mem e).1, .tail _ (zip_mem e).2⟩

section
variable {W : Wd} {k : Nat}
theorem enter {s s₁ : Shared} {env : Env} {params : List Str} {vals : List Value} {ds : List D} (ok : OK W s) (x : InCallC s env.locals (bindL env.kindOf (params.zip vals) fun _ => none) env.cells (bindC env.kindOf (params.zip vals) fun _ => none) s₁)
    (hc : (env.cells.map (·.1)).Nodup) (ci : CellsIn env) (r : Reps (gh s.heap) vals ds) (hst : ∀ d ∈ ds, storable d = true) (hn : params.Nodup) (hp : ∀ y ∈ params, okName y = true ∧ (env.kindOf y = some .local ∨ env.kindOf y = some .cell)) :
    Stt W (gh s.heap) env (params.zip ds) none s₁ ∧ Ext s s₁ ∧ ∀ b ∈ muOf env none, s.heap.get? b = none := by
  obtain ⟨h, tk, rfl⟩ := x.toInCall.same
  have kp : Keep s.heap h := x.toInCall.keep
  have fr : ∀ b ∈ muOf env none, s.heap.objs.size ≤ b := fun b hb => by
    rcases List.mem_cons.mp hb with rfl | hb
    · exact x.toInCall.fresh
    · simp only [owL, List.append_nil] at hb
      obtain ⟨⟨y, c⟩, hm, rfl⟩ := List.mem_map.mp hb
      exact Nat.le_of_lt (Nat.lt_of_le_of_lt x.toInCall.fresh (x.above y c hm))
  have fr' : ∀ b ∈ muOf env none, s.heap.get? b = none := fun b hb => Heap.get?_none_of_le (fr b hb)
  have hcell : ∀ y c, (y, c) ∈ env.cells → h.IsCell c (bindC env.kindOf (params.zip vals) (fun _ => none) y) := fun y c hm => x.cell y c (lookup_nodup hc hm)
  refine ⟨⟨ok.2, gh_keep kp, fun b hb => ?_, fun b hb => ok.1.big (fr b hb), fun b hb => ?_, ok.1.freshAll kp fr', ?_, ⟨_, x.toInCall.ns, fun y d h1 h2 => bindL_get h2 _ _ _ _ r hn h1, trivial⟩, fun y c hm => ⟨_, hcell y c hm⟩, fun y d h1 h2 => ?_, fun y d h1 => ?_⟩, .of_keep (tk := tk) kp, fr'⟩
  · cases e : (gh s.heap).get? b with
    | none => rfl
    | some o => have := of_gh e; rw [fr' b hb] at this; cases this
  · rcases List.mem_cons.mp hb with rfl | hb
    · obtain ⟨o, _, _, e, _⟩ := x.toInCall.ns
      show (h.get? _).isSome
      rw [e]; rfl
    · simp only [owL, List.append_nil] at hb
      obtain ⟨⟨y, c⟩, hm, rfl⟩ := List.mem_map.mp hb
      obtain ⟨o, e, _⟩ := hcell y c hm
      show (h.get? _).isSome
      rw [e]; rfl
  · unfold List.Nodup
    rw [List.pairwise_map]
    exact x.apart
  · obtain ⟨c, hc'⟩ := Option.isSome_iff_exists.mp (ci y h2)
    obtain ⟨v, hv, rv⟩ := bindC_get h2 params vals ds (fun _ => none) r hn h1
    refine ⟨c, v, hc', ?_, rv⟩
    have := x.cell y c hc'
    rw [hv] at this
    exact this
  · obtain ⟨h2, h3⟩ := zip_mem h1
    exact ⟨(hp y h2).1, (hp y h2).2, hst d h3⟩

structure FnIs (W : Wd) (f : Addr) (params : List Str) (names : Names) (body : List Stmt) : Prop where
  get : ∃ o fd, W.base.get? f = some o ∧ o.data = .func fd ∧ W.base.CodeRec fd.code fd.qualname ∧ fd.body = .stmts body ∧ (∀ vals : List Value, vals.length = params.length → bindArgs fd ⟨vals, []⟩ = pure (params.zip vals)) ∧ fd.closure = [] ∧
    fd.scope.names = names ∧ fd.scope.isCoroutine = false ∧ fd.scope.isGenerator = false ∧ fd.scope.kind = .function ∧ fd.globals = mainGlobals ∧ fd.builtins = builtinsNs
noncomputable def namesLook (params : List Str) (names : Names) : Bool := decide ((names.map (·.1)).Nodup) && decide params.Nodup && params.all fun y => okName y && (names.lookup y == some .local || names.lookup y == some .cell)
theorem cells_fst : ∀ (names : Names) (n : Nat) (acc : List (Str × Addr)) (y : Str), y ∈ (cellsFrom n names acc).map (·.1) → y ∈ names.map (·.1) ∨ y ∈ acc.map (·.1)
  | [], _, _, _, h => .inr h
  | (z, kd) :: r, n, acc, y, h => by
    unfold cellsFrom at h
    split at h
    · rcases cells_fst r _ _ y h with h | h
      · exact .inl (.tail _ h)
      · simp only [List.map_cons, List.mem_cons] at h
        rcases h with rfl | h
        · exact .inl (.head _)
        · exact .inr h
    · rcases cells_fst r _ _ y h with h | h
      · exact .inl (.tail _ h)
      · exact .inr h
theorem cells_nodup : ∀ (names : Names) (n : Nat) (acc : List (Str × Addr)), (names.map (·.1)).Nodup → (acc.map (·.1)).Nodup → (∀ y ∈ acc.map (·.1), y ∉ names.map (·.1)) → ((cellsFrom n names acc).map (·.1)).Nodup
  | [], _, _, _, h, _ => h
  | (z, kd) :: r, n, acc, h1, h2, h3 => by
    rw [List.map_cons, List.nodup_cons] at h1
    unfold cellsFrom
    have h3' : ∀ y ∈ acc.map (·.1), y ∉ r.map (·.1) := fun y hy m => h3 y hy (.tail _ m)
    split
    · refine cells_nodup r _ _ h1.2 ?_ fun y hy => ?_
      · rw [List.map_cons, List.nodup_cons]
        exact ⟨fun m => h3 z m (.head _), h2⟩
      · simp only [List.map_cons, List.mem_cons] at hy
        rcases hy with rfl | hy
        · exact h1.1
        · exact h3' y hy
    · exact cells_nodup r _ _ h1.2 h2 h3'
theorem cells_acc : ∀ (names : Names) (n : Nat) (acc : List (Str × Addr)) (p : Str × Addr), p ∈ acc → p ∈ cellsFrom n names acc
  | [], _, _, _, h => h
  | (z, kd) :: r, n, acc, p, h => by
    unfold cellsFrom
    split
    · exact cells_acc r _ _ p (.tail _ h)
    · exact cells_acc r _ _ p h
theorem cells_in : ∀ (names : Names) (n : Nat) (acc : List (Str × Addr)) (y : Str), (y, NameKind.cell) ∈ names → ∃ c, (y, c) ∈ cellsFrom n names acc
  | (z, kd) :: r, n, acc, y, h => by
    unfold cellsFrom
    rcases List.mem_cons.mp h with e | h
    · cases e
      exact ⟨n, cells_acc r _ _ _ (by simp)⟩
    · split
      · exact cells_in r _ _ y h
      · exact cells_in r _ _ y h
theorem reps_length {h : Heap} : ∀ {vs : List Value} {ds : List D}, Reps h vs ds → vs.length = ds.length
  | [], [], _ => rfl
  | [], _ :: _, r => r.elim
  | _ :: _, [], r => r.elim
  | v :: vs, d :: ds, r => by simp [reps_length r.2]

theorem fn_call {f : Addr} {params : List Str} {names : Names} {body : List Stmt} {ds : List D} {d : D} {st' : St} (B : BaseOK W) (fi : FnIs W f params names body) (hl : namesLook params names = true) (hlen : ds.length = params.length) (hst : ds.all storable = true)
    (hb : ExL W k names body (params.zip ds, none) st' (.ret d)) : CallOK W (k + 1) f ds d := fun A s vs Q rm ok r q => by
  obtain ⟨o, fd, ho, hd, hcd, hbody, hbind, hclo, hnm, hco, hgen, hk, hgl, hbi⟩ := fi.get
  unfold namesLook at hl
  simp only [Bool.and_eq_true, decide_eq_true_eq, List.all_eq_true, Bool.or_eq_true, beq_iff_eq] at hl
  obtain ⟨⟨h1, h2⟩, h3⟩ := hl
  have hci : ∀ L a, CellsIn (callEnvC fd L a) := fun L a y hy => by
    have hy' : fd.scope.names.lookup y = some .cell := hy
    obtain ⟨c, hc⟩ := cells_in fd.scope.names (L + 1) [] y (mem_of_lookupN hy')
    show ((cellsFrom (L + 1) fd.scope.names []).lookup y).isSome
    rw [lookup_nodup (cells_nodup fd.scope.names (L + 1) [] (by rw [hnm]; exact h1) List.nodup_nil (fun _ h => nomatch h)) hc]; rfl
  refine wpAny_call (codeAny_call_cells (by have := rm.2.1; (first | grind | omega)) (ok.all f o ho) hd (B.lim.keeps ok.all) (hcd.keeps ok.all) hbody (hbind vs (by rw [reps_length r, hlen])) hclo (fun x hx => ?_) (fun s₁ x => ?_) hco hgen hk)
  · have hm : x.1 ∈ params := zip_fst_mem (vs := vs) (List.mem_map.mpr ⟨x, hx, rfl⟩)
    rcases (h3 x.1 hm).2 with h | h
    · exact .inl (by rw [hnm]; exact h)
    · exact .inr ⟨by rw [hnm]; exact h, hci s.heap.objs.size f x.1 (by show fd.scope.names.lookup x.1 = _; rw [hnm]; exact h)⟩
  · generalize hE : callEnvC fd s.heap.objs.size f = env at x ⊢
    have e1 : env.scope = fd.scope := by rw [← hE]; rfl
    have E : EnvOK env := ⟨by rw [e1]; exact hk, by rw [← hE]; exact hgl, by rw [← hE]; exact hbi⟩
    have ci : CellsIn env := by rw [← hE]; exact hci _ _
    have F : FEnv names env := ⟨E, by rw [e1]; exact hnm, ci⟩
    have hkn : ∀ y, env.kindOf y = names.lookup y := fun y => by unfold Env.kindOf; rw [F.names]
    obtain ⟨S, e, fr⟩ := enter (params := params) (vals := vs) (ds := ds) ok x (by rw [← hE]; exact cells_nodup _ _ _ (by rw [hnm]; exact h1) List.nodup_nil fun _ h => nomatch h) ci r (fun d hd => List.all_eq_true.mp hst d hd) h2 (fun y hy => by
      rw [hkn]; exact h3 y hy)
    refine wp_false (hb _ s₁ _ env none _ (rm.deeper env) F trivial S fun fl s' hb' ow' st hm om S' kp fr' => ?_)
    obtain ⟨v, rfl, rv⟩ := fr'
    exact q v s' (e.mut S.ti fr st.x) rv
end
end Mine
end
section
open PySem PySem.W PySem.Calls PyProof.Rows PySem.Spec PySem.SeqAt PySem.SeqRoads2 PySem.MeetsSeq
set_option Elab.async false
set_option maxRecDepth 100000
set_option linter.unusedVariables false
namespace Mine
section
variable {W : Wd} {k : Nat} {env : Env} {ρ : Rho}
theorem itE_rev {p pos : Pos} {e : Expr} {as : List At} (B : BaseOK W) (hx : env.kindOf (Str.ofString "reversed") = some .globalImplicit) (hpl : plainArg e = true) (he : EvTo W k env ρ e (.lst as)) :
    ItE W k env ρ (.Call (.Name (Str.ofString "reversed") p) [e] [] pos) as.reverse := fun A s Q rm ok E R q => by
  have ha : EvTos W k env ρ [e] [.lst as] := .cons hpl he .nil
  refine Call_Name rfl (ev_global B hx (d := .ty "reversed") (by first | kernel_rfl | decide +kernel) A s _ rm ok E R fun v s₁ x₁ r₁ => ?_)
  obtain rfl : v = .type "reversed" := r₁
  have ok₁ := ok.ext x₁
  refine PyProof.Rows.callWith_type (plain_args ha) (ev_args ha A s₁ _ rm ok₁ E (R.keeps x₁.kp') fun vs s₂ x₂ r₂ => ?_)
  obtain ⟨v, rfl, rv⟩ := reps1 r₂
  obtain ⟨l, ws, n, rfl, hl, rw'⟩ := rv
  have ok₂ := ok₁.ext x₂
  have hL := isList_of (of_gh hl)
  refine call_reversed_list hL ?_
  have hlt : l < s₂.heap.objs.size := Heap.lt_size (of_gh hl)
  have hnone : s₂.heap.get? s₂.heap.objs.size = none := Heap.get?_none_of_le (Nat.le_refl _)
  have hrev : (s₂.heap.push (revObj l ((ws.toArray.size : Int) - 1))).IsRevIter s₂.heap.objs.size l ((ws.toArray.size : Int) - 1) := ⟨_, Heap.get?_push_size _ rfl, rfl, rfl⟩
  refine wpAny_pyIter_revIter (s := { s₂ with heap := s₂.heap.push (revObj l ((ws.toArray.size : Int) - 1)) }) hrev ?_
  have hrev0 : (s₂.heap.push (revObj l ((ws.toArray.size : Int) - 1))).IsRevIter s₂.heap.objs.size l ((ws.toArray.size : Int) - 1 - ((0 : Nat) : Int)) := by simpa using hrev
  have hsz : ws.toArray.size = as.reverse.length := by rw [List.size_toArray, rw'.length, List.length_reverse]
  have hsz' : ws.length = as.length := rw'.length
  refine q _ _ [s₂.heap.objs.size, l] [s₂.heap.objs.size] _ _ (Walking.back (x₁.trans x₂) ⟨hsz ▸ Walks.listRev rm.1 s₂.heap.objs.size l (Nat.ne_of_lt hlt) ws.toArray, ⟨Nat.zero_le _, by rw [← hsz]; exact hrev0, hL.push _⟩, fun b hb => ?_, fun b hb => ?_, fun i v hi hv => ?_, .pushT, ok₂.1.fresh (fun _ _ e => Heap.get?_push_of_some _ e) hnone, fun b hb => ?_, fun i h st b hb => ?_, fun i h st b hb o e => ?_, fun ha b hb => ?_⟩)
  · show b < (s₂.heap.push _).objs.size
    rw [Heap.size_push]
    simp only [List.mem_cons, List.not_mem_nil, or_false] at hb
    rcases hb with rfl | rfl
    · exact Nat.lt_succ_self _
    · exact Nat.lt_succ_of_lt hlt
  · simp only [List.mem_cons, List.not_mem_nil, or_false] at hb
    rcases hb with rfl | rfl
    · exact ok₂.1.big (Nat.le_refl _)
    · exact gh_notin hl
  · rw [List.length_reverse] at hi
    have hv' : ws[ws.length - 1 - i]? = some v := by rw [hsz']; simpa using hv
    obtain ⟨a, ha, ra⟩ := rw'.at hv'
    refine ⟨a, ?_, ra⟩
    rw [List.getElem?_reverse hi, ← ha, hsz']
  · simp only [List.mem_cons, List.not_mem_nil, or_false] at hb
    subst hb
    exact ⟨hnone, ok₂.1.big (Nat.le_refl _)⟩
  · simp only [List.mem_cons, List.not_mem_nil, or_false] at hb
    subst hb
    obtain ⟨_, ⟨o, ho, _⟩, _⟩ := st
    rw [ho]; rfl
  · simp only [List.mem_cons, List.not_mem_nil, or_false] at hb
    subst hb
    obtain ⟨_, ⟨o', ho, _, hd⟩, _⟩ := st
    rw [ho] at e; cases e
    exact ⟨_, hd⟩
  · simp only [List.mem_cons, List.not_mem_nil, or_false] at hb
    rcases hb with rfl | rfl
    · exact ⟨_, Heap.get?_push_size _ rfl, .inr ⟨_, rfl⟩⟩
    · refine ⟨_, Heap.get?_push_of_some _ (of_gh hl), .inl ⟨_, _, rfl, ?_⟩⟩
      rw [hsz]
      exact fun e => ha (List.length_eq_zero_iff.mp e)
end

noncomputable def revArg (names : Names) (iter : Expr) : Option Expr := match iter with
  | .Call f args kws _ => (asName f).bind fun q => match args with
    | [e] => (match kws with
      | [] => if (q.1 == Str.ofString "reversed" && names.lookup q.1 == some .globalImplicit && plainArg e) = true then some e else none
      | _ => none)
    | _ => none
  | _ => none
noncomputable def asLst : D → Option (List At)
  | .lst as => some as
  | _ => none
theorem asLst_eq {d : D} {as : List At} (h : asLst d = some as) : d = .lst as := by
  cases d with
  | lst l => exact congrArg D.lst (Option.some.inj h)
  | _ => exact no_some h
noncomputable def iterD (E : Evs) (names : Names) (ρ : Rho) (iter : Expr) : Option (List At) := match revArg names iter with
  | some e => ((E.e names ρ e).bind asLst).map List.reverse
  | none => (E.e names ρ iter).bind itemsOf
noncomputable def compV (E : Evs) (names : Names) (ρ : Rho) (e : Expr) : Option (List At) := match e with
  | .ListComp elt gs scope _ => comG E names ρ elt gs scope
  | _ => none
noncomputable def isAt : D → Bool
  | .at _ => true
  | _ => false
noncomputable def isNil : Expr → Bool
  | .List es _ => es.isEmpty
  | _ => false
noncomputable def emptyOw : OwD → Bool
  | none => true
  | some (_, as) => as.isEmpty
theorem emptyOw_at {od : OwD} (h : emptyOw od = true) : od = none ∨ ∃ y, od = some (y, []) := by
  match od, h with
  | none, _ => exact .inl rfl
  | some (y, []), _ => exact .inr ⟨y, rfl⟩
  | some (_, _ :: _), h => exact no_tt h
noncomputable abbrev Res := Option (St × FlowD)
noncomputable def loopD (body orelse : St → Res) (names : Names) (x : Str) : List At → St → Res
  | [], st => orelse st
  | a :: as, st => if okStore names (st.2.map (·.1)) x = true then (body (setR st.1 x (.at a), st.2)).bind fun r => match r.2 with
    | .next => loopD body orelse names x as r.1
    | .brk => some (r.1, .next)
    | .ret d => some (r.1, .ret d) else none
noncomputable def exName (E : Evs) (names : Names) (x : Str) (px : Pos) (e : Expr) (st : St) : Res :=
  if isNil e = true then (if (st.2.isNone && okName x && names.lookup x == some .local && (st.1.lookup x).isNone) = true then some ((st.1, some (x, [])), .next) else none)
  else if okStore names (st.2.map (·.1)) x = true then (swE names x px e).bind fun c => match c with
    | true => if st.2.isNone = true then (compV E names st.1 e).bind fun bs => some ((setR st.1 x (.lst bs), none), .next) else none
    | false => (E.e names st.1 e).bind fun d => if (storable d && (st.2.isNone || isAt d)) = true then some ((setR st.1 x d, st.2), .next) else none
  else none
noncomputable def swT (names : Names) (ts : List Expr) (e : Expr) : Option (Option (List Str)) := match e with
  | .Tuple vs _ _ => swD names ts vs
  | _ => some none
noncomputable def exTup (E : Evs) (names : Names) (ts : List Expr) (e : Expr) (st : St) : Res := ((E.e names st.1 e).bind seqOf).bind fun as => (swT names ts e).bind fun o => match o with
  | none => (nameElts ts).bind fun xs => if (xs.length == as.length && xs.all (okStore names (st.2.map (·.1)))) = true then some ((setAll st.1 xs as, st.2), .next) else none
  | some xs => if (xs.length == as.length && xs.all (okStore names (st.2.map (·.1)))) = true then some ((setAll st.1 xs.reverse as.reverse, st.2), .next) else none
noncomputable def exAsg (E : Evs) (names : Names) (t e : Expr) (st : St) : Res := match t with
  | .Name x px => exName E names x px e st
  | .Tuple ts _ _ => exTup E names ts e st
  | _ => none
noncomputable def exAug (E : Evs) (names : Names) (t : Expr) (op : Operator) (e : Expr) (st : St) : Res := match op with
  | .BitXor => (asName t).bind fun q => if okStore names (st.2.map (·.1)) q.1 = true then ((st.1.lookup q.1).bind asInt).bind fun a => ((E.e names st.1 e).bind asInt).bind fun b => some ((setR st.1 q.1 (.int (Builtin.bitXor a b)), st.2), .next) else none
  | _ => none
noncomputable def exOwn (E : Evs) (names : Names) (ρ : Rho) (y : Str) (items : List At) (o : Expr) (name : Str) (apos cpos : Pos) (args : List Expr) : Res := (asName o).bind fun q => match args with
  | [] => if (q.1 == y && name == Str.ofString "reverse" && (apos.endLine == cpos.line) && decide (items.length ≤ 100000)) = true then some ((ρ, some (y, items.reverse)), .next) else none
  | [e] => if (q.1 == y && name == Str.ofString "append" && plainArg e && (apos.endLine == cpos.line) && decide (items.length ≤ 100000)) = true then ((E.e names ρ e).bind asAt).bind fun a => some ((ρ, some (y, items ++ [a])), .next) else none
  | _ => none
noncomputable def exExp (E : Evs) (names : Names) (e : Expr) (st : St) : Res := st.2.bind fun p => match e with
  | .Call f args kws cpos => (match kws with
    | [] => (match f with
      | .Attribute o name apos => exOwn E names st.1 p.1 p.2 o name apos cpos args
      | _ => none)
    | _ => none)
  | _ => none
noncomputable def exCore (E : Evs) (names : Names) (rec : List Stmt → St → Res) (c : Stmt) (st : St) : Res := match c with
  | .Assign ts e _ => (match ts with
    | [t] => exAsg E names t e st
    | _ => none)
  | .AugAssign t op e _ => exAug E names t op e st
  | .Return r _ => r.bind fun e => (E.e names st.1 e).bind fun d => some (st, .ret d)
  | .If t b o _ => (E.t names st.1 t).bind fun c => rec (if c = true then b else o) st
  | .For t iter body orelse _ => (asName t).bind fun q => if (notSet iter && emptyOw st.2) = true then (iterD E names st.1 iter).bind fun as => loopD (rec body) (rec orelse) names q.1 as st else none
  | .Break _ => some (st, .brk)
  | .Expr e _ => exExp E names e st
  | _ => none
noncomputable def exFrz (E : Evs) (names : Names) (rec : List Stmt → St → Res) (c : Stmt) (st : St) : Res := match exCore E names rec c st with
  | some r => some r
  | none => if st.2.isNone = true then none else exCore E names rec c (frozen st)
noncomputable def exList (f : Stmt → St → Res) : List Stmt → St → Res
  | [], st => some (st, .next)
  | c :: r, st => (f c st).bind fun q => match q.2 with
    | .next => exList f r q.1
    | .brk => some (q.1, .brk)
    | .ret d => some (q.1, .ret d)
noncomputable def runs (E : Evs) (names : Names) : Nat → List Stmt → St → Res
  | 0 => fun _ _ => none
  | n + 1 => exList (exFrz E names (runs E names n))

section
variable {W : Wd} {k : Nat} {names : Names} {E : Evs}
theorem kindF {env : Env} (F : FEnv names env) : KindOK names env := by rw [← F.names]; exact KindOK.self
theorem revArg_eq {iter e : Expr} (h : revArg names iter = some e) : ∃ p pos, iter = .Call (.Name (Str.ofString "reversed") p) [e] [] pos ∧ names.lookup (Str.ofString "reversed") = some .globalImplicit ∧ plainArg e = true := by
  cases iter with
  | Call f args kws pos =>
    obtain ⟨⟨x, p⟩, hq, h'⟩ := Option.bind_eq_some_iff.mp h
    obtain rfl := asName_eq hq
    match args, kws, h' with
    | [e'], [], h' =>
      obtain ⟨hc, rfl⟩ := if_some h'
      obtain ⟨hc1, hc2⟩ := Bool.and_eq_true_iff.mp hc
      obtain ⟨hc3, hc4⟩ := Bool.and_eq_true_iff.mp hc1
      have hx : x = Str.ofString "reversed" := eq_of_beq hc3
      subst hx
      exact ⟨p, pos, rfl, eq_of_beq hc4, hc2⟩
    | [], _, h' => exact no_some h'
    | [_], _ :: _, h' => exact no_some h'
    | _ :: _ :: _, _, h' => exact no_some h'
  | _ => exact no_some h
theorem iterD_sound (B : BaseOK W) (S : Sound W k E) {ρ : Rho} {iter : Expr} {as : List At} (h : iterD E names ρ iter = some as) {env : Env} (F : FEnv names env) : ItE W k env ρ iter as := by
  unfold iterD at h
  cases hr : revArg names iter with
  | some e =>
    rw [hr] at h
    obtain ⟨p, pos, rfl, h1, h2⟩ := revArg_eq hr
    obtain ⟨bs, hb, rfl⟩ := Option.map_eq_some_iff.mp h
    obtain ⟨d, hd, hl⟩ := Option.bind_eq_some_iff.mp hb
    rw [asLst_eq hl] at hd
    exact itE_rev B ((kindF F _).1 h1) h2 (S.e hd (kindF F))
  | none =>
    rw [hr] at h
    obtain ⟨d, h1, h2⟩ := Option.bind_eq_some_iff.mp h
    exact itE_of (S.e h1 (kindF F)) (items_to h2)
noncomputable def RecOK (W : Wd) (k : Nat) (names : Names) (rec : List Stmt → St → Res) : Prop := ∀ {c : List Stmt} {st st' : St} {fl : FlowD}, rec c st = some (st', fl) → ExL W k names c st st' fl
theorem loopD_sound {rec : List Stmt → St → Res} (hr : RecOK W k names rec) {x : Str} {body orelse : List Stmt} {as : List At} {st st' : St} {fl : FlowD} (h : loopD (rec body) (rec orelse) names x as st = some (st', fl)) : Loop W k names x body orelse as st st' fl := by
  induction as generalizing st with
  | nil => exact .done (hr h)
  | cons a as ih =>
    obtain ⟨ρ, od⟩ := st
    by_cases hx : okStore names (od.map (·.1)) x = true
    · obtain ⟨⟨st₁, f⟩, h1, h2⟩ := Option.bind_eq_some_iff.mp ((if_pos hx).symm.trans h)
      cases f with
      | next => exact .turn hx (hr h1) (ih h2)
      | brk =>
        obtain ⟨rfl, rfl⟩ := Prod.mk.inj (Option.some.inj h2)
        exact .brk hx (hr h1)
      | ret d =>
        obtain ⟨rfl, rfl⟩ := Prod.mk.inj (Option.some.inj h2)
        exact .ret hx (hr h1)
    · exact no_some ((if_neg hx).symm.trans h)
theorem compV_sound (S : Sound W k E) {x : Str} {px pos : Pos} {e : Expr} {ρ : Rho} {bs : List At} (h : compV E names ρ e = some bs) (hsw : swE names x px e = some true) (hx : okStore names none x = true) :
    ExS W k names (.Assign [.Name x px] e pos) (ρ, none) (setR ρ x (.lst bs), none) .next := by
  cases e with
  | ListComp elt gs scope p =>
    obtain ⟨y, q, iter, ifs, rfl, h2⟩ := comG_to h
    obtain ⟨hs, hl, d, as, hd, hi, hz, hall⟩ := comD_to S h2
    exact ex_comp (fun env F => S.e hd (kindF F)) (items_to hi) hs hl hall hz hsw hx
  | _ => exact no_some h
theorem isNil_eq {e : Expr} (h : isNil e = true) : ∃ p, e = .List [] p := by
  cases e with
  | List es p =>
    cases es with
    | nil => exact ⟨p, rfl⟩
    | cons _ _ => exact no_tt h
  | _ => exact no_tt h
theorem res_to {P : St → FlowD → Prop} {st st' : St} {fl fl' : FlowD} (h : (some (st, fl) : Res) = some (st', fl')) (p : P st fl) : P st' fl' := by
  obtain ⟨rfl, rfl⟩ := Prod.mk.inj (Option.some.inj h)
  exact p
theorem name_sound (S : Sound W k E) {x : Str} {px pos : Pos} {e : Expr} {st st' : St} {fl : FlowD} (h : exName E names x px e st = some (st', fl)) : ExS W k names (.Assign [.Name x px] e pos) st st' fl := by
  obtain ⟨ρ, od⟩ := st
  by_cases hn : isNil e = true
  · have h' := (if_pos hn).symm.trans h
    obtain ⟨p, rfl⟩ := isNil_eq hn
    obtain ⟨hc, he⟩ := if_some h'
    simp only [Bool.and_eq_true, beq_iff_eq, Option.isNone_iff_eq_none] at hc
    obtain ⟨⟨⟨h1, h2⟩, h3⟩, h4⟩ := hc
    subst h1
    exact res_to (P := fun st fl => ExS W k names _ _ st fl) (congrArg some he) (ex_own h2 h3 h4)
  · have h' := (if_neg hn).symm.trans h
    by_cases hx : okStore names (od.map (·.1)) x = true
    · obtain ⟨c, hsw, h1⟩ := Option.bind_eq_some_iff.mp ((if_pos hx).symm.trans h')
      cases c with
      | true =>
        by_cases hod : od.isNone = true
        · obtain ⟨bs, hb, h2⟩ := Option.bind_eq_some_iff.mp ((if_pos hod).symm.trans h1)
          obtain rfl := Option.isNone_iff_eq_none.mp hod
          exact res_to (P := fun st fl => ExS W k names _ _ st fl) h2 (compV_sound S hb hsw hx)
        · exact no_some ((if_neg hod).symm.trans h1)
      | false =>
        obtain ⟨d, hd, h2⟩ := Option.bind_eq_some_iff.mp h1
        obtain ⟨hc, he⟩ := if_some h2
        obtain ⟨hc1, hc2⟩ := Bool.and_eq_true_iff.mp hc
        refine res_to (P := fun st fl => ExS W k names _ _ st fl) (congrArg some he) (ex_assign (fun env F => S.e hd (kindF F)) (fun env F => swE_eq F hsw) hx hc1 ((Bool.or_eq_true_iff.mp hc2).imp Option.isNone_iff_eq_none.mp fun q => ?_))
        cases d with
        | «at» a => exact ⟨a, rfl⟩
        | _ => exact no_tt q
    · exact no_some ((if_neg hx).symm.trans h')
theorem swT_eq {env : Env} (F : FEnv names env) {ts : List Expr} {k1 : Nat} {p1 : Pos} {e : Expr} {r : Option (List Str)} (h : swT names ts e = some r) : swappedStores [.Tuple ts k1 p1] e env = pure r := by
  by_cases ht : isTuple e = true
  · cases e with
    | Tuple vs k2 p2 => exact swapped_eq F h
    | _ => exact no_tt ht
  · have hr : r = none := by
      cases e with
      | Tuple vs k2 p2 => exact absurd rfl ht
      | _ => exact (Option.some.inj h).symm
    rw [hr]
    exact swapped_none (Bool.eq_false_iff.mpr ht)
theorem tup_sound (S : Sound W k E) {ts : List Expr} {k1 : Nat} {p1 pos : Pos} {e : Expr} {st st' : St} {fl : FlowD} (h : exTup E names ts e st = some (st', fl)) : ExS W k names (.Assign [.Tuple ts k1 p1] e pos) st st' fl := by
  obtain ⟨ρ, od⟩ := st
  obtain ⟨as, ha, h1⟩ := Option.bind_eq_some_iff.mp h
  obtain ⟨d, hd, hs⟩ := Option.bind_eq_some_iff.mp ha
  obtain ⟨o, hsw, h2⟩ := Option.bind_eq_some_iff.mp h1
  cases o with
  | none =>
    obtain ⟨xs, hxs, h3⟩ := Option.bind_eq_some_iff.mp h2
    obtain ⟨hc, he⟩ := if_some h3
    obtain ⟨hc1, hc2⟩ := Bool.and_eq_true_iff.mp hc
    exact res_to (P := fun st fl => ExS W k names _ _ st fl) (congrArg some he) (ex_tuple hxs (fun env F => S.e hd (kindF F)) hs (eq_of_beq hc1) (List.all_eq_true.mp hc2) fun env F => swT_eq F hsw)
  | some xs =>
    obtain ⟨hc, he⟩ := if_some h2
    obtain ⟨hc1, hc2⟩ := Bool.and_eq_true_iff.mp hc
    exact res_to (P := fun st fl => ExS W k names _ _ st fl) (congrArg some he) (ex_tupleS (fun env F => S.e hd (kindF F)) hs (eq_of_beq hc1) (List.all_eq_true.mp hc2) fun env F => swT_eq F hsw)
theorem own_sound (S : Sound W k E) {ρ : Rho} {y : Str} {items : List At} {o : Expr} {name : Str} {apos cpos pos : Pos} {args : List Expr} {st' : St} {fl : FlowD} (h : exOwn E names ρ y items o name apos cpos args = some (st', fl)) :
    ExS W k names (.Expr (.Call (.Attribute o name apos) args [] cpos) pos) (ρ, some (y, items)) st' fl := by
  obtain ⟨⟨x, p⟩, hq, h1⟩ := Option.bind_eq_some_iff.mp h
  obtain rfl := asName_eq hq
  match args, h1 with
  | [], h1 =>
    obtain ⟨hc, he⟩ := if_some h1
    obtain ⟨hc1, hc2⟩ := Bool.and_eq_true_iff.mp hc
    obtain ⟨hc3, hc4⟩ := Bool.and_eq_true_iff.mp hc1
    obtain ⟨hc5, hc6⟩ := Bool.and_eq_true_iff.mp hc3
    have e1 : x = y := eq_of_beq hc5
    have e2 : name = Str.ofString "reverse" := eq_of_beq hc6
    subst e1 e2
    exact res_to (P := fun st fl => ExS W k names _ _ st fl) (congrArg some he) (ex_reverse hc4 (of_decide_eq_true hc2))
  | [e], h1 =>
    by_cases hc : (x == y && name == Str.ofString "append" && plainArg e && (apos.endLine == cpos.line) && decide (items.length ≤ 100000)) = true
    · obtain ⟨a, ha, h2⟩ := Option.bind_eq_some_iff.mp ((if_pos hc).symm.trans h1)
      obtain ⟨d, hd, hda⟩ := Option.bind_eq_some_iff.mp ha
      rw [asAt_eq hda] at hd
      obtain ⟨hc1, hc2⟩ := Bool.and_eq_true_iff.mp hc
      obtain ⟨hc3, hc4⟩ := Bool.and_eq_true_iff.mp hc1
      obtain ⟨hc5, hc6⟩ := Bool.and_eq_true_iff.mp hc3
      obtain ⟨hc7, hc8⟩ := Bool.and_eq_true_iff.mp hc5
      have e1 : x = y := eq_of_beq hc7
      have e2 : name = Str.ofString "append" := eq_of_beq hc8
      subst e1 e2
      exact res_to (P := fun st fl => ExS W k names _ _ st fl) h2 (ex_append (fun env F => S.e hd (kindF F)) hc6 hc4 (of_decide_eq_true hc2))
    · exact no_some ((if_neg hc).symm.trans h1)
  | _ :: _ :: _, h1 => exact no_some h1
theorem aug_sound (S : Sound W k E) {t e : Expr} {op : Operator} {pos : Pos} {st st' : St} {fl : FlowD} (h : exAug E names t op e st = some (st', fl)) : ExS W k names (.AugAssign t op e pos) st st' fl := by
  obtain ⟨ρ, od⟩ := st
  cases op with
  | BitXor =>
    obtain ⟨⟨x, p⟩, hq, h1⟩ := Option.bind_eq_some_iff.mp h
    obtain rfl := asName_eq hq
    by_cases hx : okStore names (od.map (·.1)) x = true
    · obtain ⟨a, ha, h2⟩ := Option.bind_eq_some_iff.mp ((if_pos hx).symm.trans h1)
      obtain ⟨b, hb, h3⟩ := Option.bind_eq_some_iff.mp h2
      obtain ⟨d1, g1, g2⟩ := Option.bind_eq_some_iff.mp ha
      obtain ⟨d2, g3, g4⟩ := Option.bind_eq_some_iff.mp hb
      rw [asInt_eq g2] at g1
      rw [asInt_eq g4] at g3
      refine res_to (P := fun st fl => ExS W k names _ _ st fl) h3 (ex_aug hx g1 (fun env F => S.e g3 (kindF F)) fun A s v u Q rm ok rv ru q => ?_)
      obtain ⟨t, rfl⟩ : ∃ t, v = .int a t := rv
      obtain ⟨t', rfl⟩ : ∃ t, u = .int b t := ru
      exact ixor_int (q _ _ .toks ⟨_, rfl⟩)
    · exact no_some ((if_neg hx).symm.trans h1)
  | _ => exact no_some h
theorem core_sound (B : BaseOK W) (S : Sound W k E) {rec : List Stmt → St → Res} (hr : RecOK W k names rec) {c : Stmt} {st st' : St} {fl : FlowD} (h : exCore E names rec c st = some (st', fl)) : ExS W k names c st st' fl := by
  cases c with
  | Assign ts e pos =>
    match ts, h with
    | [t], h =>
      cases t with
      | Name x px => exact name_sound S h
      | Tuple ts k1 p1 => exact tup_sound S h
      | _ => exact no_some h
    | [], h => exact no_some h
    | _ :: _ :: _, h => exact no_some h
  | AugAssign t op e pos => exact aug_sound S h
  | Return r pos =>
    obtain ⟨ρ, od⟩ := st
    obtain ⟨e, rfl, h1⟩ := Option.bind_eq_some_iff.mp h
    obtain ⟨d, hd, h2⟩ := Option.bind_eq_some_iff.mp h1
    exact res_to (P := fun st fl => ExS W k names _ _ st fl) h2 (ex_return fun env F => S.e hd (kindF F))
  | If t b o pos =>
    obtain ⟨ρ, od⟩ := st
    obtain ⟨c, hc, h1⟩ := Option.bind_eq_some_iff.mp h
    exact ex_if (fun env F => S.t hc (kindF F)) (hr h1)
  | For t iter body orelse pos =>
    obtain ⟨ρ, od⟩ := st
    obtain ⟨⟨x, p⟩, hq, h1⟩ := Option.bind_eq_some_iff.mp h
    obtain rfl := asName_eq hq
    by_cases hc : (notSet iter && emptyOw od) = true
    · obtain ⟨as, ha, h2⟩ := Option.bind_eq_some_iff.mp ((if_pos hc).symm.trans h1)
      obtain ⟨c1, c2⟩ := Bool.and_eq_true_iff.mp hc
      exact ex_for (fun env F => iterD_sound B S ha F) c1 (emptyOw_at c2) (loopD_sound hr h2)
    · exact no_some ((if_neg hc).symm.trans h1)
  | Break pos =>
    exact res_to (P := fun st' fl => ExS W k names (.Break pos) st st' fl) h fun A s hb env ow Q rm F om S q => wpAny_Break (q _ s hb ow (.refl _ _) (fun b hb => .inl hb) om S (fun _ _ e => e) rfl)
  | Expr e pos =>
    obtain ⟨ρ, od⟩ := st
    obtain ⟨⟨y, items⟩, hod, h1⟩ := Option.bind_eq_some_iff.mp h
    obtain rfl : od = some (y, items) := hod
    cases e with
    | Call f args kws cpos =>
      cases kws with
      | nil =>
        cases f with
        | Attribute o name apos => exact own_sound S h1
        | _ => exact no_some h1
      | cons _ _ => exact no_some h1
    | _ => exact no_some h1
  | _ => exact no_some h
theorem frz_sound (B : BaseOK W) (S : Sound W k E) {rec : List Stmt → St → Res} (hr : RecOK W k names rec) {c : Stmt} {st st' : St} {fl : FlowD} (h : exFrz E names rec c st = some (st', fl)) : ExS W k names c st st' fl := by
  unfold exFrz at h
  cases h1 : exCore E names rec c st with
  | some r =>
    rw [h1] at h
    exact core_sound B S hr (h1.trans (show some r = some (st', fl) from h))
  | none =>
    rw [h1] at h
    by_cases hn : st.2.isNone = true
    · exact no_some ((if_pos hn).symm.trans h)
    · exact ex_freeze (core_sound B S hr ((if_neg hn).symm.trans h))
theorem list_sound {f : Stmt → St → Res} (hf : ∀ {c : Stmt} {st st' : St} {fl : FlowD}, f c st = some (st', fl) → ExS W k names c st st' fl) {c : List Stmt} {st st' : St} {fl : FlowD} (h : exList f c st = some (st', fl)) : ExL W k names c st st' fl := by
  induction c generalizing st with
  | nil => exact res_to (P := fun st' fl => ExL W k names [] st st' fl) h ex_nil
  | cons c r ih =>
    obtain ⟨⟨st₁, g⟩, h1, h2⟩ := Option.bind_eq_some_iff.mp h
    cases g with
    | next => exact ex_cons (hf h1) (ih h2)
    | brk => exact res_to (P := fun st' fl => ExL W k names (c :: r) st st' fl) h2 (ex_stop (fun e => FlowD.noConfusion e) (hf h1))
    | ret d => exact res_to (P := fun st' fl => ExL W k names (c :: r) st st' fl) h2 (ex_stop (fun e => FlowD.noConfusion e) (hf h1))
theorem runs_sound (B : BaseOK W) (S : Sound W k E) : ∀ n, RecOK W k names (runs E names n)
  | 0 => fun h => no_some h
  | n + 1 => fun h => list_sound (frz_sound B S (runs_sound B S n)) h
end
end Mine
end
section
open PySem PySem.W PySem.Calls PyProof.Rows PySem.Spec PySem.SeqAt PySem.SeqRoads2 PySem.MeetsSeq
set_option Elab.async false
set_option maxRecDepth 100000
set_option linter.unusedVariables false
namespace Mine
noncomputable def P0 : Params := { strHash := fun _ => 0, shareClass := fun _ => 0, mergeTok := id, idOf := fun _ => 0, idOfShared := fun _ _ => 0, followText := fun _ => false, idOfImm := fun _ => 0 }
noncomputable def ob (P : Params) (a : Addr) : Obj := ((hd.heap_39 P).lookup a).getD default
noncomputable def fdAt (P : Params) (a : Addr) : FuncData := match (ob P a).data with | .func fd => fd | _ => default
noncomputable def bodyAt (a : Addr) : List Stmt := match (fdAt P0 a).body with | .stmts b => b | _ => []
noncomputable def namesAt (a : Addr) : Names := (fdAt P0 a).scope.names
theorem vals1 {vals : List Value} (h : vals.length = 1) : ∃ a, vals = [a] := by
  cases vals with
  | nil => exact absurd h (by decide)
  | cons a r => exact ⟨a, congrArg (a :: ·) (List.length_eq_zero_iff.mp (Nat.succ.inj h))⟩
theorem vals2 {vals : List Value} (h : vals.length = 2) : ∃ a b, vals = [a, b] := by
  cases vals with
  | nil => exact absurd h (by decide)
  | cons a r => obtain ⟨b, rfl⟩ := vals1 (Nat.succ.inj h); exact ⟨a, b, rfl⟩
theorem vals3 {vals : List Value} (h : vals.length = 3) : ∃ a b c, vals = [a, b, c] := by
  cases vals with
  | nil => exact absurd h (by decide)
  | cons a r => obtain ⟨b, c, rfl⟩ := vals2 (Nat.succ.inj h); exact ⟨a, b, c, rfl⟩
theorem vals4 {vals : List Value} (h : vals.length = 4) : ∃ a b c d, vals = [a, b, c, d] := by
  cases vals with
  | nil => exact absurd h (by decide)
  | cons a r => obtain ⟨b, c, d, rfl⟩ := vals3 (Nat.succ.inj h); exact ⟨a, b, c, d, rfl⟩
section
variable {W : Wd} {P : Params}
theorem fn21 (X : (hd.heap_39 P).In W.base) : FnIs W 21 [Str.ofString "r", Str.ofString "g", Str.ofString "b"] (namesAt 21) (bodyAt 21) := ⟨⟨ob P 21, fdAt P 21, X _ _ (by kernel_rfl), by kernel_rfl, codeRec_of X (by kernel_rfl), by kernel_rfl, fun vals hv => by
    obtain ⟨v0, v1, v2, rfl⟩ := vals3 hv; kernel_rfl, by kernel_rfl, by kernel_rfl, by kernel_rfl, by kernel_rfl, by kernel_rfl, by kernel_rfl, by kernel_rfl⟩⟩
theorem fn28 (X : (hd.heap_39 P).In W.base) : FnIs W 28 [Str.ofString "h", Str.ofString "s", Str.ofString "v"] (namesAt 28) (bodyAt 28) := ⟨⟨ob P 28, fdAt P 28, X _ _ (by kernel_rfl), by kernel_rfl, codeRec_of X (by kernel_rfl), by kernel_rfl, fun vals hv => by
    obtain ⟨v0, v1, v2, rfl⟩ := vals3 hv; kernel_rfl, by kernel_rfl, by kernel_rfl, by kernel_rfl, by kernel_rfl, by kernel_rfl, by kernel_rfl, by kernel_rfl⟩⟩
theorem fn35 (X : (hd.heap_39 P).In W.base) : FnIs W 35 [Str.ofString "a", Str.ofString "b", Str.ofString "n"] (namesAt 35) (bodyAt 35) := ⟨⟨ob P 35, fdAt P 35, X _ _ (by kernel_rfl), by kernel_rfl, codeRec_of X (by kernel_rfl), by kernel_rfl, fun vals hv => by
    obtain ⟨v0, v1, v2, rfl⟩ := vals3 hv; kernel_rfl, by kernel_rfl, by kernel_rfl, by kernel_rfl, by kernel_rfl, by kernel_rfl, by kernel_rfl, by kernel_rfl⟩⟩
theorem fn63 (X : (hd.heap_39 P).In W.base) : FnIs W 63 [Str.ofString "a", Str.ofString "b"] (namesAt 63) (bodyAt 63) := ⟨⟨ob P 63, fdAt P 63, X _ _ (by kernel_rfl), by kernel_rfl, codeRec_of X (by kernel_rfl), by kernel_rfl, fun vals hv => by
    obtain ⟨v0, v1, rfl⟩ := vals2 hv; kernel_rfl, by kernel_rfl, by kernel_rfl, by kernel_rfl, by kernel_rfl, by kernel_rfl, by kernel_rfl, by kernel_rfl⟩⟩
theorem fn70 (X : (hd.heap_39 P).In W.base) : FnIs W 70 [Str.ofString "a", Str.ofString "b"] (namesAt 70) (bodyAt 70) := ⟨⟨ob P 70, fdAt P 70, X _ _ (by kernel_rfl), by kernel_rfl, codeRec_of X (by kernel_rfl), by kernel_rfl, fun vals hv => by
    obtain ⟨v0, v1, rfl⟩ := vals2 hv; kernel_rfl, by kernel_rfl, by kernel_rfl, by kernel_rfl, by kernel_rfl, by kernel_rfl, by kernel_rfl, by kernel_rfl⟩⟩
theorem fn78 (X : (hd.heap_39 P).In W.base) : FnIs W 78 [Str.ofString "flags"] (namesAt 78) (bodyAt 78) := ⟨⟨ob P 78, fdAt P 78, X _ _ (by kernel_rfl), by kernel_rfl, codeRec_of X (by kernel_rfl), by kernel_rfl, fun vals hv => by
    obtain ⟨v0, rfl⟩ := vals1 hv; kernel_rfl, by kernel_rfl, by kernel_rfl, by kernel_rfl, by kernel_rfl, by kernel_rfl, by kernel_rfl, by kernel_rfl⟩⟩
theorem fn85 (X : (hd.heap_39 P).In W.base) : FnIs W 85 [Str.ofString "number"] (namesAt 85) (bodyAt 85) := ⟨⟨ob P 85, fdAt P 85, X _ _ (by kernel_rfl), by kernel_rfl, codeRec_of X (by kernel_rfl), by kernel_rfl, fun vals hv => by
    obtain ⟨v0, rfl⟩ := vals1 hv; kernel_rfl, by kernel_rfl, by kernel_rfl, by kernel_rfl, by kernel_rfl, by kernel_rfl, by kernel_rfl, by kernel_rfl⟩⟩
theorem fn90 (X : (hd.heap_39 P).In W.base) : FnIs W 90 [Str.ofString "number", Str.ofString "planes"] (namesAt 90) (bodyAt 90) := ⟨⟨ob P 90, fdAt P 90, X _ _ (by kernel_rfl), by kernel_rfl, codeRec_of X (by kernel_rfl), by kernel_rfl, fun vals hv => by
    obtain ⟨v0, v1, rfl⟩ := vals2 hv; kernel_rfl, by kernel_rfl, by kernel_rfl, by kernel_rfl, by kernel_rfl, by kernel_rfl, by kernel_rfl, by kernel_rfl⟩⟩
theorem fn95 (X : (hd.heap_39 P).In W.base) : FnIs W 95 [Str.ofString "u", Str.ofString "v", Str.ofString "w", Str.ofString "prime"] (namesAt 95) (bodyAt 95) := ⟨⟨ob P 95, fdAt P 95, X _ _ (by kernel_rfl), by kernel_rfl, codeRec_of X (by kernel_rfl), by kernel_rfl, fun vals hv => by
    obtain ⟨v0, v1, v2, v3, rfl⟩ := vals4 hv; kernel_rfl, by kernel_rfl, by kernel_rfl, by kernel_rfl, by kernel_rfl, by kernel_rfl, by kernel_rfl, by kernel_rfl⟩⟩
theorem fn49 (X : (hd.heap_39 P).In W.base) : FnIs W 49 [Str.ofString "a", Str.ofString "n"] (namesAt 49) (bodyAt 49) := ⟨⟨ob P 49, fdAt P 49, X _ _ (by kernel_rfl), by kernel_rfl, codeRec_of X (by kernel_rfl), by kernel_rfl, fun vals hv => by
    obtain ⟨v0, v1, rfl⟩ := vals2 hv; kernel_rfl, by kernel_rfl, by kernel_rfl, by kernel_rfl, by kernel_rfl, by kernel_rfl, by kernel_rfl, by kernel_rfl⟩⟩
theorem fn56 (X : (hd.heap_39 P).In W.base) : FnIs W 56 [Str.ofString "digits", Str.ofString "n"] (namesAt 56) (bodyAt 56) := ⟨⟨ob P 56, fdAt P 56, X _ _ (by kernel_rfl), by kernel_rfl, codeRec_of X (by kernel_rfl), by kernel_rfl, fun vals hv => by
    obtain ⟨v0, v1, rfl⟩ := vals2 hv; kernel_rfl, by kernel_rfl, by kernel_rfl, by kernel_rfl, by kernel_rfl, by kernel_rfl, by kernel_rfl, by kernel_rfl⟩⟩

end
end Mine
end
section
open PySem PySem.W PySem.Calls PyProof.Rows PySem.Spec PySem.SeqAt PySem.SeqRoads2 PySem.MeetsSeq
set_option Elab.async false
set_option maxRecDepth 100000
set_option linter.unusedVariables false
namespace Mine
noncomputable def valAt (P : Params) (x : Str) : Value := match nsIn (hd.heap_39 P) mainGlobals x with | some (some v) => v | _ => .none
noncomputable def tokAt (P : Params) (x : Str) : Tok := match valAt P x with | .int _ t => t | _ => 0
section
variable {W : Wd} {P : Params} {p : Program} {loose : List Str} {mg mb : Str → Option Value}
theorem flagsOK_of (X : (hd.heap_39 P).In W.base) : FlagsOK W :=
  KTD.keyed_of_look (get := fun a => (hd.heap_39 P).lookup a) (D := [(1, .str (Str.ofString "OPTIMIZED")), (2, .str (Str.ofString "NEWLOCALS")), (4, .str (Str.ofString "VARARGS")), (8, .str (Str.ofString "VARKEYWORDS")), (16, .str (Str.ofString "NESTED")),
  (32, .str (Str.ofString "GENERATOR")), (64, .str (Str.ofString "NOFREE")), (128, .str (Str.ofString "COROUTINE")), (256, .str (Str.ofString "ITERABLE_COROUTINE")), (512, .str (Str.ofString "ASYNC_GENERATOR"))]) X (by kernel_rfl) W.prog W.w
theorem mem_of_lookupG : ∀ {l : Rho} {n : Str} {c : D}, l.lookup n = some c → (n, c) ∈ l
  | (k, v) :: r, n, c, h => by
    rw [List.lookup_cons] at h
    cases hb : n == k with
    | true => rw [hb] at h; cases h; rw [beq_iff_eq.mp hb]; exact List.mem_cons_self
    | false => rw [hb] at h; exact List.mem_cons_of_mem _ (mem_of_lookupG h)
noncomputable def GLok (mg mb : Str → Option Value) (q : Str × D) : Prop := okName q.1 = true ∧ ∃ v, (∀ h, Rep h v q.2) ∧ (mg q.1 = some v ∨ (mg q.1 = none ∧ mb q.1 = some v))
theorem gl_fn {x : Str} {f : Addr} (X : (hd.heap_39 P).In W.base) (T : TopRead p loose mg mb W.base) (hk : okName x = true) (e : nsIn (hd.heap_39 P) mainGlobals x = some (some (.ref f))) : GLok mg mb (x, .fn f) := ⟨hk, _, fun _ => rfl, .inl (mg_of X T.g e)⟩
theorem gl_b {x : Str} {d : D} {v : Value} (X : (hd.heap_39 P).In W.base) (T : TopRead p loose mg mb W.base) (hk : okName x = true) (e : nsIn (hd.heap_39 P) mainGlobals x = some none) (hb : bootBuiltins x = some v) (hn : x ≠ Str.ofString "__name__") (hr : ∀ h, Rep h v d) : GLok mg mb (x, d) :=
  ⟨hk, v, hr, .inr ⟨mg_none_of X T.g e, (T.builtins x hn).trans hb⟩⟩
set_option maxHeartbeats 1000000 in
theorem gl_all (X : (hd.heap_39 P).In W.base) (T : TopRead p loose mg mb W.base) : ∀ q ∈ GL, GLok mg mb q := by
  unfold GL
  simp only [List.forall_mem_cons]
  refine ⟨?_, ?_, ?_, ?_, ?_, ?_, ?_, ?_, ?_, ?_, ?_, ?_, ?_, ?_, ?_, ?_, ?_, ?_, ?_, ?_, ?_, ?_, ?_, ?_, fun _ h => nomatch h⟩
  all_goals first
    | exact gl_fn X T (by first | kernel_rfl | decide +kernel) (by kernel_rfl)
    | exact gl_b X T (v := .builtin _) (by first | kernel_rfl | decide +kernel) (by kernel_rfl) (by kernel_rfl) (by first | kernel_rfl | decide +kernel) (fun _ => rfl)
    | exact gl_b X T (v := .type _) (by first | kernel_rfl | decide +kernel) (by kernel_rfl) (by kernel_rfl) (by first | kernel_rfl | decide +kernel) (fun _ => rfl)
    | exact ⟨by first | kernel_rfl | decide +kernel, .ref flagsAt, fun _ => rfl, .inl (mg_of X T.g (by kernel_rfl))⟩
    | exact ⟨by first | kernel_rfl | decide +kernel, .int 4000 (tokAt P (Str.ofString "_DIV_LIMIT")), fun _ => ⟨_, rfl⟩, .inl (mg_of X T.g (by kernel_rfl))⟩
theorem fnHas {f : Addr} {params : List Str} {names : Names} {body : List Stmt} (fi : FnIs W f params names body) : FnHas W f := let ⟨o, fd, h1, h2, _⟩ := fi.get; ⟨o, fd, h1, h2⟩
theorem baseOK_of (X : (hd.heap_39 P).In W.base) (T : TopRead p loose mg mb W.base) : BaseOK W where
  names := ⟨mg, mb, T.g, T.b, fun x d h => gl_all X T (x, d) (mem_of_lookupG h)⟩
  lim := T.nolimit
  fns := fun x f h => by
    have hm := mem_of_lookupG h
    unfold GL at hm
    simp only [List.mem_cons, Prod.mk.injEq, List.not_mem_nil, or_false, reduceCtorEq, and_false, false_or, D.fn.injEq] at hm
    rcases hm with h | h | h | h | h | h | h | h | h | h | h <;> (obtain ⟨_, rfl⟩ := h; first
      | exact fnHas (fn70 X) | exact fnHas (fn85 X) | exact fnHas (fn90 X) | exact fnHas (fn63 X) | exact fnHas (fn49 X) | exact fnHas (fn56 X) | exact fnHas (fn35 X) | exact fnHas (fn78 X) | exact fnHas (fn95 X) | exact fnHas (fn21 X) | exact fnHas (fn28 X))
end
end Mine
end
section
open PySem PySem.W PySem.Calls PyProof.Rows PySem.Spec PySem.SeqAt PySem.SeqRoads2 PySem.MeetsSeq
set_option Elab.async false
set_option maxRecDepth 100000
set_option linter.unusedVariables false
namespace Mine
noncomputable def pOf : Addr → List Str
  | 21 => [Str.ofString "r", Str.ofString "g", Str.ofString "b"]
  | 28 => [Str.ofString "h", Str.ofString "s", Str.ofString "v"]
  | 78 => [Str.ofString "flags"]
  | 85 => [Str.ofString "number"]
  | 90 => [Str.ofString "number", Str.ofString "planes"]
  | 95 => [Str.ofString "u", Str.ofString "v", Str.ofString "w", Str.ofString "prime"]
  | _ => []
noncomputable def callF (phi : Addr → List D → Option D) (n : Nat) (f : Addr) (ds : List D) : Option D :=
  if ds.length == (pOf f).length && ds.all storable && namesLook (pOf f) (namesAt f) then (match runs (evs phi n) (namesAt f) n (bodyAt f) ((pOf f).zip ds, none) with
    | some (_, .ret d) => some d
    | _ => none) else none
noncomputable def dmD (ds : List D) : Option D := match ds with
  | [x, y] => (asInt x).bind fun a => (asInt y).bind fun b => if (decide (1 ≤ b) && decide (b ≤ 1000) && decide (a.natAbs < 2 ^ 62)) = true then some (.tup [.int (a.fdiv b), .int (a.fmod b)]) else none
  | _ => none
noncomputable def phiD : Addr → List D → Option D := fun f ds => if (f == 70) = true then dmD ds else none
/-- what the small functions answer -/
noncomputable def phiW : Addr → List D → Option D := fun f ds => match f with
  | 85 => callF phiD 8 85 ds
  | 78 => callF phiD 12 78 ds
  | 21 => callF phiD 8 21 ds
  | 28 => callF phiD 8 28 ds
  | 95 => callF phiD 12 95 ds
  | _ => phiD f ds
noncomputable def phiC : Addr → List D → Option D := fun f ds => match f with
  | 90 => callF phiW 8 90 ds
  | _ => phiW f ds
end Mine
end
section
open PySem PySem.W PySem.Calls PyProof.Rows PySem.Spec PySem.SeqAt PySem.SeqRoads2 PySem.MeetsSeq
set_option Elab.async false
set_option maxRecDepth 100000
set_option linter.unusedVariables false
namespace Mine
section
variable {W : Wd} {k : Nat}
theorem CallOK.mono {f : Addr} {ds : List D} {d : D} {j : Nat} (h : CallOK W k f ds d) (hj : k ≤ j) : CallOK W j f ds d := fun A s vs Q rm ok r q => h A s vs Q (rm.less hj) ok r q
theorem callF_sound (h8 : 8 ≤ k) (B : BaseOK W) (FO : FlagsOK W) {phi : Addr → List D → Option D} (hphi : PhiOK W k phi) {n : Nat} {f : Addr} {ds : List D} {d : D} (fi : FnIs W f (pOf f) (namesAt f) (bodyAt f)) (h : callF phi n f ds = some d) : CallOK W (k + 1) f ds d := by
  unfold callF at h
  split at h
  · rename_i hc
    simp only [Bool.and_eq_true, beq_iff_eq] at hc
    split at h
    · rename_i st hr
      cases h
      exact fn_call B fi hc.2 hc.1.1 hc.1.2 (runs_sound B (evs_sound h8 B FO hphi n) n hr)
    · cases h
  · cases h
/-- more is known of the heap -/
noncomputable def Wd.up (W : Wd) (b : Heap) : Wd := { W with base := b }
variable {b : Heap}
theorem OK.down {s : Shared} (hk : Keep W.base b) (ok : OK (W.up b) s) : OK W s := ⟨ok.1, fun a o e => ok.2 a o (hk a o e)⟩
theorem CallOK.up {f : Addr} {ds : List D} {d : D} (hk : Keep W.base b) (h : CallOK W k f ds d) : CallOK (W.up b) k f ds d := fun A s vs Q rm ok r q => h A s vs Q rm (ok.down hk) r q
theorem BaseOK.up (hk : Keep W.base b) (B : BaseOK W) : BaseOK (W.up b) where
  names := let ⟨mg, mb, h1, h2, h3⟩ := B.names; ⟨mg, mb, h1.keeps hk, h2.keeps hk, h3⟩
  lim := B.lim.keeps hk
  fns := fun x f h => let ⟨o, fd, h1, h2⟩ := B.fns x f h; ⟨o, fd, hk _ _ h1, h2⟩
theorem FlagsOK.up (hk : Keep W.base b) (F : FlagsOK W) : FlagsOK (W.up b) := KTD.tab_keep F hk
end
end Mine
end
section
open PySem PySem.W PySem.Calls PyProof.Rows PySem.Spec PySem.SeqAt PySem.SeqRoads2 PySem.MeetsSeq
set_option Elab.async false
set_option maxRecDepth 100000
set_option linter.unusedVariables false
namespace Mine
/-- what a nested def needs of the base -/
structure NestOK (W : Wd) : Prop where
  hd : ∀ t ∈ TT, CodeHd W.base t.c t.P
  g : ∃ mg, W.base.Ns mainGlobals mg ∧ ∃ bm o, mg (Str.ofString "__builtins__") = some (.ref bm) ∧ bm ≠ builtinsNs ∧ bm ≠ mainGlobals ∧ W.base.get? bm = some o ∧ o.cls = .type "module" ∧ o.dict = some builtinsNs ∧ o.data = .plain
theorem NestOK.up {W : Wd} {b : Heap} (hk : Keep W.base b) (N : NestOK W) : NestOK (W.up b) where
  hd := fun t ht => (N.hd t ht).keeps hk
  g := let ⟨mg, h1, bm, o, h2, h3, h4, h5, h6⟩ := N.g; ⟨mg, h1.keeps hk, bm, o, h2, h3, h4, hk _ _ h5, h6⟩
/-- the function object that a nested def makes -/
noncomputable def Made (name qual : Str) (params : Arguments) (body : List Stmt) (scope : Scope) (clos : List (Str × Addr)) (h : Heap) (g : Addr) : Prop :=
  ∃ doc pm c' ctv, h.get? g = some { cls := .type "function", data := .func (fnX name qual params body scope clos .none .none doc pm none (.ref c') ctv) } ∧ h.CodeRec (.ref c') qual
section
variable {W : Wd} {k : Nat} {env : Env}
theorem make_fn {t : Tb} (ht : t ∈ TT) (N : NestOK W) {name : Str} {params : Arguments} {body : List Stmt} {scope : Scope} {clos : List (Str × Addr)} {firstLine : Nat} {A : Around} {s : Shared} {Q : Value → Shared → Prop} (ok : OK W s) (hcl : closureFor scope env = pure clos) (E : EnvOK env) (hcode : env.code = .ref t.c)
    (q : ∀ g s', Ext s s' → s.heap.get? g = none → Made name t.qual params body scope clos (gh s'.heap) g → Q (.ref g) s') :
    wpF W A (makeFunction name t.qual params (.stmts body) scope env [] [] [] t.pos firstLine) Q s := by
  obtain ⟨mg, hg, bm, ob, b1, b2, b3, b4, b5, b6, b7⟩ := N.g
  obtain ⟨ps, hP, htr, hx⟩ := ok.1 t ht
  have hPt : t.P ∈ tabs := tt_tabs t ht
  have nb : ∀ {a : Addr} {o : Obj}, W.base.get? a = some o → a ≠ t.P := fun e q => gh_notin (ok.2 _ _ e) (q ▸ hPt)
  have hgP : mainGlobals ≠ t.P := by obtain ⟨o, _, _, e, _⟩ := hg; exact nb e
  have hb : s.heap.BuiltinsAt mg t.P := ⟨bm, ob, b1, b2, b3, nb b4, ok.all _ _ b4, b5, b6, b7⟩
  rcases hx with hnone | ⟨c', hc', _, hrec⟩
  · refine makeFunction_K (mg := mg) hcl E.glob (hg.keeps ok.all) hcode ((N.hd t ht).keeps ok.all) hP htr hnone hgP hb fun c' ctv doc h' tk hx hge hlt hrec htb => ?_
    have hc't : c' ∉ tabs := ok.1.big hge
    have sz : s.heap.objs.size ≤ h'.objs.size := Nat.le_of_lt (Nat.lt_of_le_of_lt hge hlt)
    have hgt : h'.objs.size ∉ tabs := ok.1.big sz
    have kp : ∀ b o, b ≠ t.P → s.heap.get? b = some o → (h'.push (fnMade name t.qual params body scope clos doc ((mg (Str.ofString "__name__")).getD .none) c' ctv)).get? b = some o := fun b o hb e => Heap.get?_push_of_some _ (hx b o hb e)
    have hcr : (gh (h'.push (fnMade name t.qual params body scope clos doc ((mg (Str.ofString "__name__")).getD .none) c' ctv))).CodeRec (.ref c') t.qual := by
      obtain ⟨c2, o, vs, tq, e, g, r⟩ := hrec
      cases e
      exact ⟨c', o, vs, tq, rfl, gh_get (Heap.get?_push_of_some _ g) hc't, r⟩
    refine q h'.objs.size _ ⟨fun b o _ e => gh_get (kp b o (fun m => gh_notin e (m ▸ hPt)) (of_gh e)) (gh_notin e), fun b _ e => ?_, fun t' ht' ps' hp' htr' => ?_, rfl, rfl⟩ (Heap.get?_none_of_le sz) ⟨_, _, _, _, gh_get (Heap.get?_push_size _ rfl) hgt, hcr⟩
    · by_cases hbP : b = t.P
      · show ((h'.push _).get? b).isSome
        rw [hbP, Heap.get?_push_of_some _ htb]; rfl
      · obtain ⟨o, ho⟩ := Option.isSome_iff_exists.mp e
        show ((h'.push _).get? b).isSome
        rw [kp b o hbP ho]; rfl
    · by_cases hPP : t'.P = t.P
      · have : t' = t := by
          simp only [TT, List.mem_cons, List.not_mem_nil, or_false] at ht ht'
          rcases ht with rfl | rfl <;> rcases ht' with rfl | rfl <;> first | rfl | (exact absurd hPP (by decide))
        subst this
        rw [hP] at hp'
        have e : ps = ps' := by
          have := Option.some.inj hp'
          unfold tabObj at this
          simpa using this
        subst e
        exact .inr ⟨hnone, c', Heap.get?_none_of_le hge, hcr, Heap.get?_push_of_some _ htb⟩
      · exact .inl (kp _ _ hPP hp')
  · refine makeFunction_hit (mg := mg) hcl E.glob (hg.keeps ok.all) hcode ((N.hd t ht).keeps ok.all) hP htr hc' hb fun ctv doc h' tk hk hsz => ?_
    have hgt : h'.objs.size ∉ tabs := ok.1.big hsz
    have kp : Keep s.heap (h'.push { cls := .type "function", data := .func (fnX name t.qual params body scope clos .none .none doc ((mg (Str.ofString "__name__")).getD .none) none (.ref c') ctv) }) := fun b o e => Heap.get?_push_of_some _ (hk b o e)
    exact q h'.objs.size _ (.of_keep kp) (Heap.get?_none_of_le hsz) ⟨_, _, _, _, gh_get (Heap.get?_push_size _ rfl) hgt, hrec.keeps (gh_keep kp)⟩
end
end Mine
end
section
open PySem PySem.W PySem.Calls PyProof.Rows PySem.Spec PySem.SeqAt PySem.SeqRoads2 PySem.MeetsSeq
set_option Elab.async false
set_option maxRecDepth 100000
set_option linter.unusedVariables false
namespace Mine
/-- a frame whose free names stand in cells of the base -/
structure FSt (W : Wd) (mu : List Addr) (env : Env) (ρ : Rho) (s : Shared) : Prop where
  base : Keep W.base (gh s.heap)
  ti : TI (env.locals :: mu) s.heap
  mt : ∀ b ∈ env.locals :: mu, b ∉ tabs
  al : ∀ b ∈ env.locals :: mu, (s.heap.get? b).isSome
  nb : ∀ b ∈ env.locals :: mu, W.base.get? b = none
  nm : env.locals ∉ mu
  ns : ∃ m, s.heap.Ns env.locals m ∧ ∀ x a, ρ.lookup x = some (.at a) → env.kindOf x = some .local → ∃ v, m x = some v ∧ ARep v a
  kinds : ∀ x d, ρ.lookup x = some d → okName x = true ∧ ((env.kindOf x = some .local ∧ ∃ a, d = .at a) ∨ (env.kindOf x = some .free ∧ ∃ c v, env.cells.lookup x = some c ∧ W.base.IsCell c (some v) ∧ Rep W.base v d))
section
variable {W : Wd} {k : Nat} {mu : List Addr} {env : Env} {ρ : Rho} {s s' : Shared}
theorem FSt.ok (S : FSt W mu env ρ s) : OK W s := ⟨S.ti.mono (fun _ h => nomatch h), S.base⟩
theorem FSt.rd (S : FSt W mu env ρ s) : Rd env (gh s.heap) ρ := fun x d h => by
  obtain ⟨hk, hc⟩ := S.kinds x d h
  refine ⟨hk, ?_⟩
  rcases hc with ⟨h1, a, rfl⟩ | ⟨h1, c, v, h2, h3, h4⟩
  · obtain ⟨m, hn, hm⟩ := S.ns
    obtain ⟨v, hv, r⟩ := hm x a h h1
    exact ⟨v, .inl ⟨h1, m, ns_gh hn (S.mt _ (.head _)), hv⟩, r⟩
  · exact ⟨v, .inr ⟨.inr h1, c, h2, h3.keeps S.base⟩, h4.keeps S.base⟩
theorem FSt.ext (S : FSt W mu env ρ s) (e : Ext s s') : FSt W mu env ρ s' := by
  refine ⟨fun b o q => e.kp' b o (S.base b o q), S.ti.step e.tab S.al fun b o _ q => e.kp' b o q, S.mt, fun b hb => e.al b (fun m => nomatch m) (S.al b hb), S.nb, S.nm, ?_, S.kinds⟩
  obtain ⟨m, hn, hm⟩ := S.ns
  exact ⟨m, hn.at' fun o q => of_gh (e.kp' _ o (gh_get q (S.mt _ (.head _)))), hm⟩
/-- the objects aside change -/
theorem FSt.aside (S : FSt W mu env ρ s) (x : Stp mu s s') : FSt W mu env ρ s' := by
  refine ⟨fun b o q => x.x.kp b o (fun m => by have := S.nb b (.tail _ m); rw [this] at q; cases q) (S.base b o q), S.ti.step x.x.tab S.al fun b o hb q => x.x.kp b o (fun m => hb (.tail _ m)) q, S.mt, fun b hb => x.all b (S.al b hb), S.nb, S.nm, ?_, S.kinds⟩
  obtain ⟨m, hn, hm⟩ := S.ns
  exact ⟨m, hn.at' fun o q => of_gh (x.x.kp _ o S.nm (gh_get q (S.mt _ (.head _)))), hm⟩
theorem FSt.store (S : FSt W mu env ρ s) (E : EnvOK env) {A : Around} {x : Str} {v : Value} {a : At} {Q : Unit → Shared → Prop} (hx : okName x = true) (hk : env.kindOf x = some .local) (r : ARep v a)
    (q : ∀ s', Stp [env.locals] s s' → (∀ b ∈ mu, s'.heap.get? b = s.heap.get? b) → FSt W mu env (setR ρ x (.at a)) s' → Q () s') : wpF W A (storeName env x v) Q s := by
  obtain ⟨m, hn, hm⟩ := S.ns
  refine wpAny_storeName_local hk hn (fun h' hn' hs' => ?_) (by rw [E.kind]; rfl)
  have hLt : env.locals ∉ tabs := S.mt _ (.head _)
  have sx : SExt [env.locals] s { s with heap := h', toks := s.toks + 1 } := SExt.at (tk := s.toks + 1) hs' hLt
  have all : ∀ b, (s.heap.get? b).isSome → (h'.get? b).isSome := fun b e => by
    by_cases hb : b = env.locals
    · rw [hb]; obtain ⟨o, _, _, e, _⟩ := hn'; rw [e]; rfl
    · rw [hs'.2 b hb]; exact e
  refine q _ ⟨sx, all⟩ (fun b hb => hs'.2 b fun e => S.nm (e ▸ hb)) ⟨fun b o e => sx.kp b o (fun m => ?_) (S.base b o e), S.ti.step sx.tab S.al fun b o hb e => sx.kp b o (fun m => hb ?_) e, S.mt, fun b hb => all b (S.al b hb), S.nb, S.nm, ⟨_, hn', fun y b h1 h2 => ?_⟩, fun y d h => ?_⟩
  · simp only [List.mem_cons, List.not_mem_nil, or_false] at m
    have := S.nb _ (.head _)
    rw [← m, e] at this; cases this
  · simp only [List.mem_cons, List.not_mem_nil, or_false] at m
    rw [m]; exact .head _
  · rw [setR_lookup] at h1
    split at h1
    · rename_i hy; cases h1; exact ⟨v, by simp [hy], r⟩
    · rename_i hy
      obtain ⟨u, hu, ru⟩ := hm y b h1 h2
      exact ⟨u, by simp [hy, hu], ru⟩
  · rw [setR_lookup] at h
    split at h
    · rename_i hy; cases h; subst hy; exact ⟨hx, .inl ⟨hk, _, rfl⟩⟩
    · exact S.kinds y d h
noncomputable def isComp (e : Expr) : Bool := Nat.ble 5 (tagE e) && Nat.ble (tagE e) 7
theorem swaps_plain {e : Expr} {t : Option Expr} {line : Nat} (h : isComp e = false) : swapsWith e t line env = pure false := by
  cases e <;> first | rfl | exact no_tt h.symm
theorem fs_assign {A : Around} {x : Str} {px pos : Pos} {e : Expr} {a : At} {Q : Flow → Shared → Prop} (rm : Room k A) (S : FSt W mu env ρ s) (E : EnvOK env) (hx : okName x = true) (hk : env.kindOf x = some .local) (he : EvTo W k env ρ e (.at a)) (hc : isComp e = false)
    (q : ∀ s', Stp [env.locals] s s' → (∀ b ∈ mu, ∀ o, s.heap.get? b = some o → s'.heap.get? b = some o) → FSt W mu env (setR ρ x (.at a)) s' → Q .next s') : wpF W A (exec (.Assign [.Name x px] e pos) env) Q s := by
  refine wpAny_Assign_Name (he A s _ rm S.ok E S.rd fun v s₁ x₁ r₁ => ?_) (swaps_plain hc)
  refine (S.ext x₁).store E hx hk r₁ fun s₂ st hmu S₂ => q s₂ ⟨?_, fun b e => st.all b (x₁.al b (fun m => nomatch m) e)⟩ (fun b hb o eo => ?_) S₂
  · exact (x₁.to (mu := [env.locals])).trans st.x (fun b hb => S.al b (by simp only [List.mem_cons, List.not_mem_nil, or_false] at hb; rw [hb]; exact .head _)) fun b hb => (S.ext x₁).al b (by simp only [List.mem_cons, List.not_mem_nil, or_false] at hb; rw [hb]; exact .head _)
  · rw [hmu b hb]
    exact of_gh (x₁.kp' b o (gh_get eo (S.mt b (.tail _ hb))))
/-- into a closure -/
theorem call_closure {name qual : Str} {pargs : Arguments} {body : List Stmt} {scope : Scope} {clos : List (Str × Addr)} {g : Addr} {params : List Str} {vals : List Value} {as : List At} {φ : Rho} {A : Around} {Q : Value → Shared → Prop}
    (B : BaseOK W) (M : Made name qual pargs body scope clos W.base g) (hbind : ∀ doc pm c' ctv, bindArgs (fnX name qual pargs body scope clos .none .none doc pm none (.ref c') ctv) ⟨vals, []⟩ = pure (params.zip vals))
    (rm : Room (k + 1) A) (ok : OK W s) (ti : TI mu s.heap) (mt : ∀ b ∈ mu, b ∉ tabs) (al : ∀ b ∈ mu, (s.heap.get? b).isSome) (nb : ∀ b ∈ mu, W.base.get? b = none)
    (hcell : ∀ x ∈ scope.names, x.2 ≠ .cell) (hk : scope.kind = .function) (hco : scope.isCoroutine = false) (hgen : scope.isGenerator = false) (hnd : params.Nodup) (hpk : ∀ y ∈ params, okName y = true ∧ scope.names.lookup y = some .local)
    (hφ : ∀ x d, φ.lookup x = some d → okName x = true ∧ scope.names.lookup x = some .free ∧ ∃ c v, clos.lookup x = some c ∧ W.base.IsCell c (some v) ∧ Rep W.base v d)
    (r : AReps vals as)
    (h : ∀ env s₁, env.scope = scope → env.cells = clos → EnvOK env → s.heap.get? env.locals = none → Ext s s₁ → (∀ b o, s.heap.get? b = some o → s₁.heap.get? b = some o) → FSt W mu env ((params.zip (as.map .at)) ++ φ) s₁ →
      wpF W (A.deeper env) (execs body env) (fun f s' => Q (match f with | .ret v => v | _ => .none) s') s₁) : wpF W A (call (.ref g) vals) Q s := by
  obtain ⟨doc, pm, c', ctv, ho, hcr⟩ := M
  refine wpAny_call (codeAny_call_def (binds := params.zip vals) (by have := rm.2.1; omega) (ok.all _ _ ho) rfl (B.lim.keeps ok.all) (hcr.keeps ok.all) rfl (BindsTo.of_eq (hbind doc pm c' ctv)) hcell (fun x hx => (hpk x.1 (zip_fst_mem (vs := vals) (List.mem_map.mpr ⟨x, hx, rfl⟩))).2) (fun h₀ hns hkp => ?_) hco hgen hk)
  generalize hE : callEnv (fnX name qual pargs body scope clos .none .none doc pm none (.ref c') ctv) s.heap.objs.size g = env at *
  have e1 : env.scope = scope := by rw [← hE]; rfl
  have e2 : env.cells = clos := by rw [← hE]; rfl
  have e3 : env.locals = s.heap.objs.size := by rw [← hE]; rfl
  have E : EnvOK env := ⟨by rw [e1]; exact hk, by rw [← hE]; rfl, by rw [← hE]; rfl⟩
  have fr : s.heap.get? env.locals = none := by rw [e3]; exact Heap.get?_none_of_le (Nat.le_refl _)
  have hkn : ∀ y, env.kindOf y = scope.names.lookup y := fun y => by unfold Env.kindOf; rw [e1]
  rw [← e3] at hns
  have hp0 : ∀ (ps : List Str) (vs : List Value) (bs : List At) (x : Str) (a : At), ps.Nodup → AReps vs bs → (ps.zip (bs.map D.at)).lookup x = some (.at a) → ∃ v, (ps.zip vs).reverse.lookup x = some v ∧ ARep v a := by
    intro ps
    induction ps with
    | nil => intro vs bs x a _ _ e; simp at e
    | cons p ps ih =>
      intro vs bs x a hn r e
      match vs, bs, r with
      | [], [], _ => simp at e
      | v :: vs, b :: bs, r =>
        rw [List.nodup_cons] at hn
        rw [List.map_cons, List.zip_cons_cons, List.lookup_cons] at e
        rw [List.zip_cons_cons, List.reverse_cons]
        cases hb : x == p with
        | true =>
          rw [hb] at e; cases e
          obtain rfl := eq_of_beq hb
          refine ⟨v, ?_, r.1⟩
          have hnone : (ps.zip vs).reverse.lookup x = none := by
            rw [List.lookup_eq_none_iff]
            intro q hq
            have : q.1 ∈ ps := zip_fst_mem (vs := vs) (List.mem_map.mpr ⟨q, List.mem_reverse.mp hq, rfl⟩)
            simp only [beq_eq_false_iff_ne, ne_eq, bne_iff_ne]
            intro q'; exact hn.1 (q' ▸ this)
          rw [List.lookup_append, hnone]
          simp
        | false =>
          rw [hb] at e
          obtain ⟨u, hu, ru⟩ := ih vs bs x a hn.2 r.2 e
          exact ⟨u, by rw [List.lookup_append, hu]; rfl, ru⟩
  have sp : ∀ x d, (params.zip (as.map D.at) ++ φ).lookup x = some d → (x ∈ params ∧ (params.zip (as.map D.at)).lookup x = some d) ∨ φ.lookup x = some d := fun x d e => by
    rw [List.lookup_append] at e
    cases hq : (params.zip (as.map D.at)).lookup x with
    | some d' => rw [hq] at e; cases e; exact .inl ⟨(zip_mem hq).1, rfl⟩
    | none => rw [hq] at e; exact .inr e
  refine wp_false (h env _ e1 e2 E fr (.of_keep (tk := s.toks + (params.zip vals).length) hkp) hkp ⟨fun b o e => gh_keep hkp _ _ (ok.2 b o e), ti.fresh hkp fr, fun b hb => ?_, fun b hb => ?_, fun b hb => ?_, fun m => ?_, ⟨_, hns, fun x a e1 e2 => ?_⟩, fun x d e => ?_⟩)
  · rcases List.mem_cons.mp hb with rfl | hb
    · rw [e3]; exact ok.1.big (Nat.le_refl _)
    · exact mt b hb
  · rcases List.mem_cons.mp hb with rfl | hb
    · obtain ⟨o, _, _, e, _⟩ := hns
      show (h₀.get? _).isSome
      rw [e]; rfl
    · obtain ⟨o, ho⟩ := Option.isSome_iff_exists.mp (al b hb)
      show (h₀.get? _).isSome
      rw [hkp _ _ ho]; rfl
  · rcases List.mem_cons.mp hb with rfl | hb
    · cases q : W.base.get? env.locals with
      | none => rfl
      | some o => have := ok.all _ _ q; rw [fr] at this; cases this
    · exact nb b hb
  · have := al _ m; rw [fr] at this; cases this
  · rcases sp x _ e1 with ⟨hm, e⟩ | e
    · exact hp0 params vals as x a hnd r e
    · have := (hφ x _ e).2.1
      rw [hkn, this] at e2; cases e2
  · rcases sp x _ e with ⟨hm, e⟩ | e
    · refine ⟨(hpk x hm).1, .inl ⟨by rw [hkn]; exact (hpk x hm).2, ?_⟩⟩
      have := (zip_mem e).2
      obtain ⟨a, _, ha⟩ := List.mem_map.mp this
      exact ⟨a, ha.symm⟩
    · obtain ⟨h1, h2, h3⟩ := hφ x d e
      exact ⟨h1, .inr ⟨by rw [hkn]; exact h2, by rw [e2]; exact h3⟩⟩
end
end Mine
end
section
open PySem PySem.W PySem.Calls PyProof.Rows PySem.Spec PySem.SeqAt PySem.SeqRoads2 PySem.MeetsSeq
set_option Elab.async false
set_option maxRecDepth 100000
set_option linter.unusedVariables false
namespace Mine
noncomputable def xE : Expr := .Name (Str.ofString "") ⟨0, 0, 0, 0⟩
noncomputable def xS : Stmt := .Pass ⟨0, 0, 0, 0⟩
noncomputable def stN (l : List Stmt) (i : Nat) : Stmt := l.getD i xS
/-- the parts of a statement of the program -/
noncomputable def stV : Stmt → List Expr × List Stmt × List Stmt × Pos × Arguments × Scope
  | .If t b o p => ([t], b, o, p, default, default)
  | .Assign ts e p => (e :: ts, [], [], p, default, default)
  | .Return e p => (e.toList, [], [], p, default, default)
  | .Expr e p => ([e], [], [], p, default, default)
  | .FunctionDef _ a b _ _ _ s _ _ p => ([], b, [], p, a, s)
  | .For t i b _ p => ([i, t], b, [], p, default, default)
  | _ => ([], [], [], ⟨0, 0, 0, 0⟩, default, default)
/-- the parts of an expression of the program -/
noncomputable def exV : Expr → List Expr × Nat × Pos × Scope
  | .Name _ p => ([], 0, p, default)
  | .Call f a _ p => (f :: a, 0, p, default)
  | .IfExp t b o p => ([t, b, o], 0, p, default)
  | .Subscript o i p => ([o, i], 0, p, default)
  | .BinOp l _ r p => ([l, r], 0, p, default)
  | .Tuple es k p => (es, k, p, default)
  | .List es p => (es, 0, p, default)
  | .Attribute o _ p => ([o], 0, p, default)
  | .Compare l _ rs p => (l :: rs, 0, p, default)
  | .ListComp e gs s p => (e :: (gs.map (·.target) ++ gs.map (·.iter)), 0, p, s)
  | _ => ([], 0, ⟨0, 0, 0, 0⟩, default)
noncomputable def stX (s : Stmt) (i : Nat) : Expr := (stV s).1.getD i xE
noncomputable def exN (e : Expr) (i : Nat) : Expr := (exV e).1.getD i xE
noncomputable def ifT (s : Stmt) : Expr := stX s 0
noncomputable def ifB (s : Stmt) : List Stmt := (stV s).2.1
noncomputable def ifO (s : Stmt) : List Stmt := (stV s).2.2.1
noncomputable def asE (s : Stmt) : Expr := stX s 0
noncomputable def asT (s : Stmt) : Expr := stX s 1
noncomputable def reE (s : Stmt) : Expr := stX s 0
noncomputable def exE (s : Stmt) : Expr := stX s 0
noncomputable def poS (s : Stmt) : Pos := (stV s).2.2.2.1
noncomputable def poE (e : Expr) : Pos := (exV e).2.2.1
noncomputable def dfA (s : Stmt) : Arguments := (stV s).2.2.2.2.1
noncomputable def dfB (s : Stmt) : List Stmt := (stV s).2.1
noncomputable def dfS (s : Stmt) : Scope := (stV s).2.2.2.2.2
noncomputable def ieT (e : Expr) : Expr := exN e 0
noncomputable def ieB (e : Expr) : Expr := exN e 1
noncomputable def ieO (e : Expr) : Expr := exN e 2
/-- the number with the digits -/
noncomputable def dval (n : Nat) : List Int → Int
  | [] => 0
  | d :: r => d + 2 ^ n * dval n r
theorem dval_append (n : Nat) : ∀ a b : List Int, dval n (a ++ b) = dval n a + 2 ^ (n * a.length) * dval n b
  | [], b => by simp [dval]
  | d :: a, b => by
    simp only [List.cons_append, dval, dval_append n a b, List.length_cons]
    rw [Nat.mul_succ, Int.pow_add, Int.mul_add]
    have : (2 : Int) ^ (n * a.length) * 2 ^ n * dval n b = 2 ^ n * (2 ^ (n * a.length) * dval n b) := by
      rw [Int.mul_comm (2 ^ (n * a.length)), Int.mul_assoc]
    rw [this]; (first | grind | omega)
theorem dval_bound (n : Nat) : ∀ a : List Int, (∀ d ∈ a, 0 ≤ d ∧ d < 2 ^ n) → 0 ≤ dval n a ∧ dval n a < 2 ^ (n * a.length)
  | [], _ => by simp [dval]
  | d :: a, h => by
    obtain ⟨h1, h2⟩ := h d (.head _)
    obtain ⟨h3, h4⟩ := dval_bound n a fun x hx => h x (.tail _ hx)
    simp only [dval, List.length_cons, Nat.mul_succ, Int.pow_add]
    have hp : (0 : Int) < 2 ^ n := Int.pow_pos (by decide)
    constructor
    · have := Int.mul_nonneg (Int.le_of_lt hp) h3; (first | grind | omega)
    · have h5 : 2 ^ n * (dval n a + 1) ≤ 2 ^ n * 2 ^ (n * a.length) := Int.mul_le_mul_of_nonneg_left (by (first | grind | omega)) (Int.le_of_lt hp)
      rw [Int.mul_add, Int.mul_one, Int.mul_comm _ (2 ^ (n * a.length))] at h5
      (first | grind | omega)
noncomputable def dS : Stmt := stN (bodyAt 56) 0
noncomputable def dBody : List Stmt := dfB dS
noncomputable def dScope : Scope := dfS dS
theorem dBody_eq : dBody = [.If (ifT (stN dBody 0)) [.Return (some (reE (stN (ifB (stN dBody 0)) 0))) (poS (stN (ifB (stN dBody 0)) 0))] [] (poS (stN dBody 0)),
  .Assign [.Name (Str.ofString "mid") (poE (asT (stN dBody 1)))] (asE (stN dBody 1)) (poS (stN dBody 1)), .Assign [.Name (Str.ofString "shift") (poE (asT (stN dBody 2)))] (asE (stN dBody 2)) (poS (stN dBody 2)), .Return (some (reE (stN dBody 3))) (poS (stN dBody 3))] := by kernel_rfl
noncomputable def dRho (g : Addr) (n : Nat) (ds : List Int) (L R : Int) : Rho := [(Str.ofString "L", .int L), (Str.ofString "R", .int R), (Str.ofString "digits", .lst (ds.map .int)), (Str.ofString "inner", .fn g), (Str.ofString "n", .int n)]
noncomputable def dMid (g : Addr) (n : Nat) (ds : List Int) (L R m : Int) : Rho := dRho g n ds L R ++ [(Str.ofString "mid", .int m)]
noncomputable def dSh (g : Addr) (n : Nat) (ds : List Int) (L R m sh : Int) : Rho := dMid g n ds L R m ++ [(Str.ofString "shift", .int sh)]
section
variable (phi : Addr → List D → Option D) (g : Addr) (n : Nat) (ds : List Int) (L R m sh : Int)
theorem d_t : (evs phi 6).t dScope.names (dRho g n ds L R) (ifT (stN dBody 0)) = cmpI .Eq (L + 1) R := by kernel_rfl
theorem d_0 : (evs phi 6).e dScope.names (dRho g n ds L R) (reE (stN (ifB (stN dBody 0)) 0)) = itemD (.lst (ds.map .int)) (.int L) := by kernel_rfl
theorem d_1 : (evs phi 6).e dScope.names (dRho g n ds L R) (asE (stN dBody 1)) = some (.int ((L + R).fdiv (2 ^ 1))) := by kernel_rfl
theorem d_2 : (evs phi 6).e dScope.names (dMid g n ds L R m) (asE (stN dBody 2)) = binI .Mult (m - L) n := by kernel_rfl
theorem d_3 : (evs phi 6).e dScope.names (dSh g n ds L R m sh) (reE (stN dBody 3)) = bin2 .Add (bin2 .LShift (phi g [.int m, .int R]) (some (.int sh))) (phi g [.int L, .int m]) := by kernel_rfl
end
end Mine
end
section
open PySem PySem.W PySem.Calls PyProof.Rows PySem.Spec PySem.SeqAt PySem.SeqRoads2 PySem.MeetsSeq
set_option Elab.async false
set_option maxRecDepth 100000
set_option linter.unusedVariables false
namespace Mine
noncomputable def slice (ds : List Int) (L R : Nat) : List Int := (ds.drop L).take (R - L)
theorem slice_mem {ds : List Int} {L R : Nat} {d : Int} (h : d ∈ slice ds L R) : d ∈ ds := List.mem_of_mem_drop (List.mem_of_mem_take h)
theorem slice_split {ds : List Int} {L m R : Nat} (h1 : L ≤ m) (h2 : m ≤ R) : slice ds L R = slice ds L m ++ slice ds m R := by
  unfold slice
  have e : R - L = (m - L) + (R - m) := by rw [Nat.add_comm]; exact (Nat.sub_add_sub_cancel h2 h1).symm
  rw [e, List.take_add]
  congr 1
  rw [List.drop_drop, Nat.add_sub_cancel' h1]
theorem slice_len {ds : List Int} {L R : Nat} (h : R ≤ ds.length) : (slice ds L R).length = R - L := by
  unfold slice; rw [List.length_take, List.length_drop]; exact Nat.min_eq_left (Nat.sub_le_sub_right h L)
noncomputable def phiI (g : Addr) (n : Nat) (ds : List Int) (j : Nat) (f : Addr) (as : List D) : Option D := match as with
  | [x, y] => (asInt x).bind fun a => (asInt y).bind fun b => if (f == g && (decide (0 ≤ a) && (decide (a < b) && (decide (b ≤ ds.length) && decide (b - a ≤ j))))) = true then some (.int (dval n (slice ds a.toNat b.toNat))) else none
  | _ => none
theorem phiI_of {g : Addr} {n : Nat} {ds : List Int} {j : Nat} {f : Addr} {as : List D} {d : D} (h : phiI g n ds j f as = some d) : ∃ L R : Nat, as = [.int L, .int R] ∧ f = g ∧ L < R ∧ R ≤ ds.length ∧ R - L ≤ j ∧ d = .int (dval n (slice ds L R)) := by
  match as, h with
  | [x, y], h =>
    obtain ⟨a, ha, h1⟩ := Option.bind_eq_some_iff.mp h
    obtain ⟨b, hb, h2⟩ := Option.bind_eq_some_iff.mp h1
    obtain ⟨hc, he⟩ := if_some h2
    simp only [Bool.and_eq_true, beq_iff_eq, decide_eq_true_eq] at hc
    obtain ⟨c0, c1, c2, c3, c4⟩ := hc
    rw [asInt_eq ha, asInt_eq hb]
    clear h h1 h2 ha hb
    obtain ⟨L, rfl⟩ := Int.eq_ofNat_of_zero_le c1
    obtain ⟨R, rfl⟩ := Int.eq_ofNat_of_zero_le (Int.le_trans c1 (Int.le_of_lt c2))
    exact ⟨L, R, rfl, c0, by (first | grind | omega), by (first | grind | omega), by (first | grind | omega), he.symm⟩
  | [], h => exact no_some h
  | [_], h => exact no_some h
  | _ :: _ :: _ :: _, h => exact no_some h
theorem phiI_at {g : Addr} {n : Nat} {ds : List Int} {j L R : Nat} (h1 : L < R) (h2 : R ≤ ds.length) (h3 : R - L ≤ j) : phiI g n ds j g [.int L, .int R] = some (.int (dval n (slice ds L R))) := by
  show (if (g == g && (decide (0 ≤ (L : Int)) && (decide ((L : Int) < R) && (decide ((R : Int) ≤ ds.length) && decide ((R : Int) - L ≤ j))))) = true then some (D.int (dval n (slice ds (L : Int).toNat (R : Int).toNat))) else none) = _
  rw [if_pos, Int.toNat_natCast, Int.toNat_natCast]
  simp only [Bool.and_eq_true, beq_self_eq_true, decide_eq_true_eq]
  exact ⟨trivial, Int.natCast_nonneg _, by (first | grind | omega), by (first | grind | omega), by (first | grind | omega)⟩
noncomputable def dPhi (g : Addr) (n : Nat) (ds : List Int) : Rho := [(Str.ofString "digits", .lst (ds.map .int)), (Str.ofString "inner", .fn g), (Str.ofString "n", .int n)]
section
variable {W : Wd} {k : Nat}
theorem made_has {name qual : Str} {params : Arguments} {body : List Stmt} {scope : Scope} {clos : List (Str × Addr)} {g : Addr} (M : Made name qual params body scope clos W.base g) : FnHas W g := let ⟨_, _, _, _, h, _⟩ := M; ⟨_, _, h, rfl⟩
theorem fs_return {A : Around} {mu : List Addr} {env : Env} {ρ : Rho} {s : Shared} {e : Expr} {pos : Pos} {d : D} {Q : Flow → Shared → Prop} (rm : Room k A) (S : FSt W mu env ρ s) (E : EnvOK env) (he : EvTo W k env ρ e d)
    (q : ∀ v s', Ext s s' → Rep (gh s'.heap) v d → Q (.ret v) s') : wpF W A (exec (.Return (some e) pos) env) Q s :=
  wpAny_Return_some (he A s _ rm S.ok E S.rd fun v s₁ x₁ r₁ => q v s₁ x₁ r₁)
theorem small_of {a : Int} (h : 0 ≤ a) (h2 : a < 2 ^ 64) : small a = true := by
  unfold small
  rw [decide_eq_true_eq]
  (first | grind | omega)
theorem mid_of {L R : Nat} (h0 : L < R) (h : ¬ (L + 1 = R)) : ∃ m : Nat, ((L : Int) + R).fdiv (2 ^ 1) = (m : Int) ∧ L < m ∧ m < R ∧ 2 * (R - m) ≤ R + 1 := by
  refine ⟨(L + R) / 2, ?_, by (first | grind | omega), by (first | grind | omega), by (first | grind | omega)⟩
  show ((L : Int) + R).fdiv 2 = (((L + R) / 2 : Nat) : Int)
  rw [Int.fdiv_eq_ediv_of_nonneg _ (by decide)]; (first | grind | omega)
theorem d_inner {name qual : Str} {clos : List (Str × Addr)} {g : Addr} {n : Nat} {ds : List Int} (B : BaseOK W) (FO : FlagsOK W) (M : Made name qual (dfA dS) dBody dScope clos W.base g)
    (hφ : ∀ x d, (dPhi g n ds).lookup x = some d → okName x = true ∧ dScope.names.lookup x = some .free ∧ ∃ c v, clos.lookup x = some c ∧ W.base.IsCell c (some v) ∧ Rep W.base v d)
    (hn : n ≤ 10) (hlen : n * (ds.length + 1) ≤ 120) (hlen2 : ds.length ≤ 1000) (hds : ∀ d ∈ ds, 0 ≤ d ∧ d < 2 ^ n) : ∀ (j L R : Nat), L < R → R ≤ ds.length → R - L ≤ j → CallOK W (8 + j) g [.int L, .int R] (.int (dval n (slice ds L R)))
  | 0, L, R, h1, h2, h3 => by (first | grind | omega)
  | j + 1, L, R, h1, h2, h3 => fun A s vs Q rm ok r q => by
    obtain ⟨v1, v2, rfl, r1, r2⟩ := reps2 r
    have hphi : PhiOK W (8 + j) (phiI g n ds j) := fun f as d h => by
      obtain ⟨a, b, rfl, rfl, c1, c2, c3, rfl⟩ := phiI_of h
      exact ⟨d_inner B FO M hφ hn hlen hlen2 hds j a b c1 c2 c3, made_has M⟩
    have sd := evs_sound (by (first | grind | omega)) B FO hphi 6
    refine call_closure (k := 8 + j) (mu := []) (params := [Str.ofString "L", Str.ofString "R"]) (as := [.int L, .int R]) (φ := dPhi g n ds) B M (fun doc pm c' ctv => by kernel_rfl) rm ok ok.1 (fun _ h => nomatch h) (fun _ h => nomatch h) (fun _ h => nomatch h)
      (by have : dScope.names.all (fun x => x.2 != .cell) = true := by first | kernel_rfl | decide +kernel
          intro x hx; have := List.all_eq_true.mp this x hx; simpa using this) (by kernel_rfl) (by kernel_rfl) (by kernel_rfl) (by first | kernel_rfl | decide +kernel)
      (by have : [Str.ofString "L", Str.ofString "R"].all (fun y => okName y && dScope.names.lookup y == some .local) = true := by first | kernel_rfl | decide +kernel
          intro x hx; have := List.all_eq_true.mp this x hx; simpa using this) hφ ⟨r1, r2, trivial⟩ fun env s₁ e1 e2 E fr x₁ kp S => ?_
    have K : KindOK dScope.names env := by rw [← e1]; exact KindOK.self
    have hkn : ∀ y, env.kindOf y = dScope.names.lookup y := fun y => by unfold Env.kindOf; rw [e1]
    have rm' := rm.deeper env
    have S0 : FSt W [] env (dRho g n ds L R) s₁ := S
    have fin : ∀ (st : St) s₂, Stp [env.locals] s₁ s₂ → FSt W [] env st.1 s₂ → ∀ v s', Ext s₂ s' → Rep (gh s'.heap) v (.int (dval n (slice ds L R))) → Q v s' := fun st s₂ stp S₂ v s' x r => by
      have t1 : TI [env.locals] s₁.heap := S0.ti
      refine q v s' ((x₁.mut t1 (fun b hb => ?_) stp.x).trans x) r
      simp only [List.mem_cons, List.not_mem_nil, or_false] at hb; rw [hb]; exact fr
    rw [dBody_eq]
    by_cases hLR : L + 1 = R
    · have ht : (evs (phiI g n ds j) 6).t dScope.names (dRho g n ds L R) (ifT (stN dBody 0)) = some true := by
        rw [d_t]; unfold cmpI; simp; (first | grind | omega)
      have hlt : L < ds.length := by (first | grind | omega)
      have hi : (evs (phiI g n ds j) 6).e dScope.names (dRho g n ds L R) (reE (stN (ifB (stN dBody 0)) 0)) = some (.int (dval n (slice ds L R))) := by
        rw [d_0]
        have hs : dval n (slice ds L R) = ds[L] := by
          subst hLR
          unfold slice
          rw [show L + 1 - L = 1 by (first | grind | omega), List.drop_eq_getElem_cons hlt]
          show dval n [ds[L]] = ds[L]
          simp only [dval, Int.mul_zero, Int.add_zero]
        rw [hs]
        exact item_at (by (first | grind | omega)) (by (first | grind | omega)) (by simp [hlt])
      refine wpAny_execs_cons (wpAny_If (sd.t ht K _ s₁ _ rm' S0.ok E S0.rd fun s₂ x₂ => ?_))
      simp only [if_true]
      refine wpAny_execs_cons (fs_return rm' (S0.ext x₂) E (sd.e hi K) fun v s' x₃ r₃ => ?_)
      exact fin (dRho g n ds L R, none) s₂ (.of x₂) (S0.ext x₂) v s' x₃ r₃
    · have ht : (evs (phiI g n ds j) 6).t dScope.names (dRho g n ds L R) (ifT (stN dBody 0)) = some false := by
        rw [d_t]; unfold cmpI; simp; (first | grind | omega)
      obtain ⟨m, hm, hm1, hm2, hm3⟩ := mid_of h1 hLR
      have h_1 := d_1 (phiI g n ds j) g n ds L R
      rw [hm] at h_1
      have hml : (m - L) * n ≤ 120 := by
        have h5 : (m - L) * n ≤ (ds.length + 1) * n := Nat.mul_le_mul_right n (by (first | grind | omega))
        rw [Nat.mul_comm (ds.length + 1)] at h5
        exact Nat.le_trans h5 hlen
      have h_2 : (evs (phiI g n ds j) 6).e dScope.names (dMid g n ds L R m) (asE (stN dBody 2)) = some (.int (((m - L) * n : Nat) : Int)) := by
        rw [d_2]
        have : small (n : Int) = true := small_of (by (first | grind | omega)) (by (first | grind | omega))
        unfold binI
        simp only [this, Bool.or_true, if_true]
        congr 3
        rw [Int.natCast_mul, Int.ofNat_sub (by (first | grind | omega))]
      have hb1 : dval n (slice ds m R) < 2 ^ 64 ∧ 0 ≤ dval n (slice ds m R) := by
        obtain ⟨b1, b2⟩ := dval_bound n (slice ds m R) fun d hd => hds d (slice_mem hd)
        rw [slice_len h2] at b2
        have : n * (R - m) ≤ 64 := by
          have h5 : 2 * (R - m) ≤ ds.length + 1 := Nat.le_trans hm3 (Nat.succ_le_succ h2)
          have h6 : n * (2 * (R - m)) ≤ n * (ds.length + 1) := Nat.mul_le_mul_left n h5
          rw [Nat.mul_left_comm] at h6
          (first | grind | omega)
        exact ⟨Int.lt_of_lt_of_le b2 (by exact_mod_cast Nat.pow_le_pow_right (by decide) this), b1⟩
      have h_3 : (evs (phiI g n ds j) 6).e dScope.names (dSh g n ds L R m (((m - L) * n : Nat) : Int)) (reE (stN dBody 3)) = some (.int (dval n (slice ds L R))) := by
        rw [d_3]
        have p1 : phiI g n ds j g [.int (m : Int), .int (R : Int)] = some (.int (dval n (slice ds m R))) := phiI_at hm2 h2 (by (first | grind | omega))
        have p2 : phiI g n ds j g [.int (L : Int), .int (m : Int)] = some (.int (dval n (slice ds L m))) := phiI_at hm1 (by (first | grind | omega)) (by (first | grind | omega))
        rw [p1, p2]
        have e3 : small (dval n (slice ds m R)) = true := small_of hb1.2 hb1.1
        have p3 : bin2 .LShift (some (.int (dval n (slice ds m R)))) (some (.int (((m - L) * n : Nat) : Int))) = some (.int (dval n (slice ds m R) * 2 ^ ((m - L) * n))) := by
          show binI .LShift _ _ = _
          unfold binI
          simp only [e3, Bool.true_and]
          rw [if_pos (by simp only [Bool.and_eq_true, decide_eq_true_eq]; (first | grind | omega))]
          rw [Int.toNat_natCast]
        rw [p3]
        show some (D.int _) = _
        congr 2
        rw [slice_split (L := L) (m := m) (R := R) (by (first | grind | omega)) (by (first | grind | omega)), dval_append, slice_len (by (first | grind | omega))]
        rw [Nat.mul_comm n (m - L), Int.mul_comm (2 ^ ((m - L) * n)), Int.add_comm]
      refine wpAny_execs_cons (wpAny_If (sd.t ht K _ s₁ _ rm' S0.ok E S0.rd fun s₂ x₂ => ?_))
      simp only [Bool.false_eq_true, if_false]
      refine wpAny_execs_nil ?_
      have S2 := S0.ext x₂
      refine wpAny_execs_cons (fs_assign rm' S2 E (by first | kernel_rfl | decide +kernel) (by rw [hkn]; decide +kernel) (sd.e h_1 K) (by kernel_rfl) fun s₃ st₃ _ S3 => ?_)
      have S3' : FSt W [] env (dMid g n ds L R m) s₃ := S3
      refine wpAny_execs_cons (fs_assign rm' S3' E (by first | kernel_rfl | decide +kernel) (by rw [hkn]; decide +kernel) (sd.e h_2 K) (by kernel_rfl) fun s₄ st₄ _ S4 => ?_)
      have S4' : FSt W [] env (dSh g n ds L R m (((m - L) * n : Nat) : Int)) s₄ := S4
      have al1 : ∀ b ∈ [env.locals], (s₂.heap.get? b).isSome := S2.al
      have st24 : Stp [env.locals] s₁ s₄ := (Stp.of x₂).chain (st₃.chain st₄ (fun b hb => .inl hb) S3'.ti S2.al) (fun b hb => .inl hb) S2.ti S0.al
      refine wpAny_execs_cons (fs_return rm' S4' E (sd.e h_3 K) fun v s' x₅ r₅ => ?_)
      exact fin (dSh g n ds L R m (((m - L) * n : Nat) : Int), none) s₄ st24 S4' v s' x₅ r₅
end
end Mine
end
section
open PySem PySem.W PySem.Calls PyProof.Rows PySem.Spec PySem.SeqAt PySem.SeqRoads2 PySem.MeetsSeq
set_option Elab.async false
set_option maxRecDepth 100000
set_option linter.unusedVariables false
namespace Mine
noncomputable def caA (e : Expr) : List Expr := (exV e).1.tail
noncomputable def caF (e : Expr) : Expr := exN e 0
section
variable {W : Wd} {k : Nat} {P : Params}
theorem codeRec_notMu {hb : Heap} {env : Env} {ρ : Rho} {s : Shared} {c : Addr} {q : Str} (S : Stt W hb env ρ none s) (h : (gh s.heap).CodeRec (.ref c) q) : c ∉ muOf env none := fun m => by
  obtain ⟨c2, o, vs, t, e, ho, hd, _⟩ := h
  cases e
  have ho' := of_gh ho
  rcases List.mem_cons.mp m with rfl | m
  · obtain ⟨mm, ⟨o', es, ep, e, hd', _⟩, _⟩ := S.ns
    rw [ho'] at e; cases e
    rw [hd] at hd'; cases hd'
  · simp only [owL, List.append_nil] at m
    obtain ⟨⟨x, c'⟩, hm, rfl⟩ := List.mem_map.mp m
    obtain ⟨v, o', e, hd'⟩ := S.cells x c' hm
    rw [ho'] at e; cases e
    rw [hd] at hd'; cases hd'
theorem Made.keeps' {name qual : Str} {params : Arguments} {body : List Stmt} {scope : Scope} {clos : List (Str × Addr)} {h h' : Heap} {g : Addr} (M : Made name qual params body scope clos h g) (k1 : ∀ o, h.get? g = some o → h'.get? g = some o) (k2 : ∀ c, h.CodeRec (.ref c) qual → h'.CodeRec (.ref c) qual) : Made name qual params body scope clos h' g :=
  let ⟨doc, pm, c', ctv, h1, h2⟩ := M; ⟨doc, pm, c', ctv, k1 _ h1, k2 _ h2⟩
/-- the cells that a nested def closes over -/
theorem clos_of {scope : Scope} {env : Env} (hf : ∀ n, (n, NameKind.free) ∈ scope.names → env.kindOf n = some .cell) (ci : CellsIn env) :
    closureFor scope env = pure (clOf scope.names env.cells []) ∧ ∀ n c, (n, NameKind.free) ∈ scope.names → env.cells.lookup n = some c → (clOf scope.names env.cells []).lookup n = some c :=
  ⟨closureFor_pure fun n hn => Option.isSome_iff_exists.mp (ci n (hf n hn)), fun n c hn hc => lookup_all (cl_all scope.names [] fun _ h => nomatch h) (cl_mem hc scope.names [] (.inl hn))⟩
noncomputable def dR : Expr := reE (stN (bodyAt 56) 1)
theorem dS_eq : bodyAt 56 = [.FunctionDef (Str.ofString "inner") (dfA dS) dBody [] none [] dScope none (Str.ofString "inner") ⟨88, 4, 93, 55⟩, .Return (some (.IfExp (ieT dR) (ieB dR) (ieO dR) (poE dR))) (poS (stN (bodyAt 56) 1))] := by kernel_rfl
noncomputable def dTop (g : Addr) (n : Nat) (ds : List Int) : Rho := [(Str.ofString "digits", .lst (ds.map .int)), (Str.ofString "n", .int n), (Str.ofString "inner", .fn g)]
theorem dR_t (phi : Addr → List D → Option D) (g : Addr) (n : Nat) (ds : List Int) : (evs phi 6).t (namesAt 56) (dTop g n ds) (ieT dR) = truthD (.lst (ds.map .int)) := by kernel_rfl
theorem dR_o (phi : Addr → List D → Option D) (g : Addr) (n : Nat) (ds : List Int) : (evs phi 6).e (namesAt 56) (dTop g n ds) (ieO dR) = some (.int 0) := by kernel_rfl
noncomputable def dA (i : Nat) : Expr := (caA (ieB dR)).getD i xE
theorem dR_call : ieB dR = .Call (.Name (Str.ofString "inner") (poE (caF (ieB dR)))) [dA 0, dA 1] [] (poE (ieB dR)) := by kernel_rfl
theorem dR_0 (phi : Addr → List D → Option D) (g : Addr) (n : Nat) (ds : List Int) : (evs phi 6).e (namesAt 56) (dTop g n ds) (dA 0) = some (.int 0) := by kernel_rfl
theorem dR_1 (phi : Addr → List D → Option D) (g : Addr) (n : Nat) (ds : List Int) : (evs phi 6).e (namesAt 56) (dTop g n ds) (dA 1) = callB "len" [.lst (ds.map .int)] := by kernel_rfl
theorem callB_len {as : List At} (h : as.length ≤ 100000) : callB "len" [.lst as] = some (.int as.length) := by
  have e : callB "len" [.lst as] = (if decide (as.length ≤ 100000) = true then some (D.int as.length) else none) := by kernel_rfl
  rw [e, if_pos (decide_eq_true h)]
theorem truth_lst {as : List At} (h : as.length ≤ 100000) : truthD (.lst as) = some (!as.isEmpty) := by
  show (if decide (as.length ≤ 100000) = true then some (!as.isEmpty) else none) = _
  rw [if_pos (decide_eq_true h)]
theorem slice_all (ds : List Int) : slice ds 0 ds.length = ds := by unfold slice; simp

theorem d2i {n : Nat} {ds : List Int} (X : (hd.heap_39 P).In W.base) (B : BaseOK W) (FO : FlagsOK W) (N : NestOK W) (hn : n ≤ 10) (hlen : n * (ds.length + 1) ≤ 120) (hlen2 : ds.length ≤ 1000) (hds : ∀ d ∈ ds, 0 ≤ d ∧ d < 2 ^ n) :
    CallOK W (9 + ds.length) 56 [.lst (ds.map .int), .int n] (.int (dval n ds)) := fun A s vs Q rm ok r q => by
  have hnm : (namesAt 56).map (·.1) |>.Nodup := by first | kernel_rfl | decide +kernel
  obtain ⟨v1, v2, rfl, r1, r2⟩ := reps2 r
  have hci : ∀ L a, CellsIn (callEnvC (fdAt P 56) L a) := fun L a y hy => by
    have hy' : (namesAt 56).lookup y = some .cell := hy
    obtain ⟨c, hc⟩ := cells_in (namesAt 56) (L + 1) [] y (mem_of_lookupN hy')
    show ((cellsFrom (L + 1) (namesAt 56) []).lookup y).isSome
    rw [lookup_nodup (cells_nodup (namesAt 56) (L + 1) [] hnm List.nodup_nil (fun _ h => nomatch h)) hc]; rfl
  have hk2 : [Str.ofString "digits", Str.ofString "n"].all (fun y => okName y && (namesAt 56).lookup y == some .cell) = true := by first | kernel_rfl | decide +kernel
  have hk3 : ∀ y ∈ [Str.ofString "digits", Str.ofString "n"], okName y = true ∧ (namesAt 56).lookup y = some .cell := fun y hy => by
    have := List.all_eq_true.mp hk2 y hy; simpa using this
  refine wpAny_call (codeAny_call_cells (fd := fdAt P 56) (o := ob P 56) (body := bodyAt 56) (binds := [Str.ofString "digits", Str.ofString "n"].zip [v1, v2]) (by have := rm.2.1; (first | grind | omega)) (ok.all _ _ (X _ _ (by kernel_rfl))) (by kernel_rfl) (B.lim.keeps ok.all) ((codeRec_of X (by kernel_rfl)).keeps ok.all) (by kernel_rfl) (by kernel_rfl) (by kernel_rfl) (fun x hx => ?_) (fun s₁ x => ?_) (by kernel_rfl) (by kernel_rfl) (by kernel_rfl))
  · have hm := zip_fst_mem (vs := [v1, v2]) (List.mem_map.mpr ⟨x, hx, rfl⟩)
    exact .inr ⟨(hk3 x.1 hm).2, hci s.heap.objs.size 56 x.1 (hk3 x.1 hm).2⟩
  have hcode : (callEnvC (fdAt P 56) s.heap.objs.size 56).code = .ref 55 := by kernel_rfl
  have hqual : qualnameIn (callEnvC (fdAt P 56) s.heap.objs.size 56) (Str.ofString "inner") (Str.ofString "inner") = Str.ofString "_digits2int.<locals>.inner" := by kernel_rfl
  have e1 : (callEnvC (fdAt P 56) s.heap.objs.size 56).scope.names = namesAt 56 := by kernel_rfl
  have E : EnvOK (callEnvC (fdAt P 56) s.heap.objs.size 56) := ⟨by kernel_rfl, by kernel_rfl, by kernel_rfl⟩
  have ci : CellsIn (callEnvC (fdAt P 56) s.heap.objs.size 56) := hci _ _
  have hcn : ((callEnvC (fdAt P 56) s.heap.objs.size 56).cells.map (·.1)).Nodup := cells_nodup (namesAt 56) _ [] hnm List.nodup_nil fun _ h => nomatch h
  generalize callEnvC (fdAt P 56) s.heap.objs.size 56 = env at *
  have F : FEnv (namesAt 56) env := ⟨E, e1, ci⟩
  have hkn : ∀ y, env.kindOf y = (namesAt 56).lookup y := fun y => by unfold Env.kindOf; rw [e1]
  obtain ⟨S, x₁, fr⟩ := enter (params := [Str.ofString "digits", Str.ofString "n"]) (vals := [v1, v2]) (ds := [.lst (ds.map .int), .int n]) ok x hcn ci r (fun d hd => by
    simp only [List.mem_cons, List.not_mem_nil, or_false] at hd
    rcases hd with rfl | rfl <;> rfl) (by first | kernel_rfl | decide +kernel) (fun y hy => ⟨(hk3 y hy).1, .inr (by rw [hkn]; exact (hk3 y hy).2)⟩)
  have hfree : ∀ y, (y, NameKind.free) ∈ dScope.names → env.kindOf y = some .cell := fun y hy => by
    have : dScope.names.all (fun y => y.2 != .free || (namesAt 56).lookup y.1 == some .cell) = true := by first | kernel_rfl | decide +kernel
    have := List.all_eq_true.mp this _ hy
    rw [hkn]
    simpa using this
  obtain ⟨hcl, hcl2⟩ := clos_of hfree ci
  rw [dS_eq]
  refine wpAny_execs_cons (nestDef_K (by kernel_rfl) (by kernel_rfl) (by kernel_rfl) ?_)
  rw [hqual]
  refine wp_false (make_fn (t := ⟨55, 51, ⟨88, 4, 93, 55⟩, Str.ofString "_digits2int.<locals>.inner"⟩) (.tail _ (.head _)) N S.ok hcl E hcode fun g s₂ x₂ hg M => ?_)
  obtain ⟨S₂, _⟩ := S.ext x₂
  refine wp_false (S₂.store E (x := Str.ofString "inner") (d := .fn g) (by first | kernel_rfl | decide +kernel) (.inr ⟨by rw [hkn]; decide +kernel, ci _ (by rw [hkn]; decide +kernel)⟩) rfl rfl (fun e => nomatch e) fun s₃ st₃ S₃ => ?_)
  have S3 : Stt W _ env (dTop g n ds) none s₃ := S₃
  have gm : g ∉ muOf env none := fun m => by have := S.al g m; rw [hg] at this; cases this
  have M' : Made (Str.ofString "inner") (Str.ofString "_digits2int.<locals>.inner") (dfA dS) dBody dScope (clOf dScope.names env.cells []) (W.up (gh s₃.heap)).base g :=
    M.keeps' (fun o e => st₃.x.kp g o gm e) fun c hc => by
      have hcm := codeRec_notMu S₂ hc
      obtain ⟨c2, o, vs, t, e, ho, r⟩ := hc
      cases e
      exact ⟨c, o, vs, t, rfl, st₃.x.kp c o hcm ho, r⟩
  have kb : Keep W.base (gh s₃.heap) := S3.ok.2
  have ok₃ : OK (W.up (gh s₃.heap)) s₃ := ⟨S3.ok.1, fun _ _ e => e⟩
  have hφ : ∀ x d, (dPhi g n ds).lookup x = some d → okName x = true ∧ dScope.names.lookup x = some .free ∧ ∃ c v, (clOf dScope.names env.cells []).lookup x = some c ∧ (W.up (gh s₃.heap)).base.IsCell c (some v) ∧ Rep (W.up (gh s₃.heap)).base v d := fun x d hx => by
    have hx3 : (dTop g n ds).lookup x = some d ∧ x ∈ [Str.ofString "digits", Str.ofString "inner", Str.ofString "n"] := by
      have hm := mem_of_lookupG hx
      unfold dPhi at hm
      simp only [List.mem_cons, Prod.mk.injEq, List.not_mem_nil, or_false] at hm
      rcases hm with ⟨rfl, rfl⟩ | ⟨rfl, rfl⟩ | ⟨rfl, rfl⟩ <;> exact ⟨by kernel_rfl, by simp⟩
    have hl : [Str.ofString "digits", Str.ofString "inner", Str.ofString "n"].all (fun y => okName y && dScope.names.lookup y == some .free && (namesAt 56).lookup y == some .cell) = true := by first | kernel_rfl | decide +kernel
    have hl' := List.all_eq_true.mp hl x hx3.2
    simp only [Bool.and_eq_true, beq_iff_eq] at hl'
    obtain ⟨c, v, hc, ⟨o, ho, hd⟩, rv⟩ := S3.cell x d hx3.1 (by rw [hkn]; exact hl'.2)
    exact ⟨hl'.1.1, hl'.1.2, c, v, hcl2 x c (mem_of_lookupN hl'.1.2) hc, ⟨o, gh_get ho (S3.mt c (mem_cells (mem_of_lookup hc))), hd⟩, rv.keeps S3.keep⟩
  have inn := d_inner (B.up kb) (FO.up kb) M' hφ hn hlen hlen2 hds
  have hphi : PhiOK (W.up (gh s₃.heap)) (8 + ds.length) (fun _ _ => none) := fun f ds d h => nomatch h
  have sd := evs_sound (by (first | grind | omega)) (B.up kb) (FO.up kb) hphi 6
  have e9 : 9 + ds.length = (8 + ds.length) + 1 := by (first | grind | omega)
  rw [e9] at rm
  have rm' := rm.deeper env
  have K : KindOK (namesAt 56) env := kindF F
  have hl1 : (ds.map At.int).length ≤ 100000 := by rw [List.length_map]; (first | grind | omega)
  have hev : EvTo (W.up (gh s₃.heap)) (8 + ds.length) env (dTop g n ds) (.IfExp (ieT dR) (ieB dR) (ieO dR) (poE dR)) (.int (dval n ds)) := by
    refine ev_ifexp (c := !(ds.map At.int).isEmpty) (sd.t (by rw [dR_t]; exact truth_lst hl1) K) ?_
    cases hds0 : ds with
    | nil =>
      have := sd.e (dR_o _ g n ds) K
      rw [hds0] at this
      simpa [dval] using this
    | cons d0 r0 =>
      rw [← hds0]
      have hpos : 0 < ds.length := by rw [hds0]; simp
      have hne : (!(ds.map At.int).isEmpty) = true := by rw [hds0]; rfl
      rw [hne]
      simp only [if_true]
      rw [dR_call]
      refine ev_callL (ds := [.int 0, .int ds.length]) (made_has M') (show (dTop g n ds).lookup _ = some (.fn g) from by kernel_rfl) (.cons (by kernel_rfl) (sd.e (dR_0 _ g n ds) K) (.cons (by kernel_rfl) (sd.e (by
        rw [dR_1, callB_len hl1, List.length_map]) K) .nil)) ?_
      have := inn ds.length 0 ds.length hpos (Nat.le_refl _) (by (first | grind | omega))
      rw [slice_all] at this
      exact this
  refine wp_false (wpAny_execs_cons (wpAny_Return_some (hev _ s₃ _ rm' ok₃ E S3.rd fun v s₄ x₄ r₄ => ?_)))
  have st13 : Stp (muOf env none) s₁ s₃ := (Stp.of x₂).chain st₃ (fun b hb => .inl hb) S₂.ti S.al
  exact q v s₄ ((x₁.mut S.ti fr st13.x).trans x₄) r₄
end
end Mine
end
section
open PySem PySem.W PySem.Calls PyProof.Rows PySem.Spec PySem.SeqAt PySem.SeqRoads2 PySem.MeetsSeq
set_option Elab.async false
set_option maxRecDepth 100000
set_option linter.unusedVariables false
namespace Mine
theorem nat_and_shift (x s : Nat) : x &&& (x / 2 ^ s * 2 ^ s) = x / 2 ^ s * 2 ^ s := by
  rw [← Nat.shiftRight_eq_div_pow, ← Nat.shiftLeft_eq]
  apply Nat.eq_of_testBit_eq
  intro i
  simp only [Nat.testBit_and, Nat.testBit_shiftLeft, Nat.testBit_shiftRight]
  by_cases h : s ≤ i
  · simp [h, Nat.add_sub_cancel' h]
  · simp [h]
theorem and_nat (a b : Nat) : Builtin.bitAnd (a : Int) (b : Int) = ((a &&& b : Nat) : Int) := by
  unfold Builtin.bitAnd
  simp
theorem xor_low (x s : Nat) : Builtin.bitXor (x : Int) (((x / 2 ^ s : Nat) : Int) * 2 ^ s) = ((x % 2 ^ s : Nat) : Int) := by
  rw [PyProof.Rows.bitXor_and]
  have h1 : ((x / 2 ^ s : Nat) : Int) * 2 ^ s = ((x / 2 ^ s * 2 ^ s : Nat) : Int) := by simp
  rw [h1, and_nat, nat_and_shift]
  have h3 := Nat.div_add_mod x (2 ^ s)
  rw [Nat.mul_comm] at h3
  (first | grind | omega)
noncomputable def digs (n : Nat) : Nat → Nat → List Int
  | _, 0 => []
  | x, m + 1 => ((x % 2 ^ n : Nat) : Int) :: digs n (x / 2 ^ n) m
theorem digs_len (n : Nat) : ∀ x m, (digs n x m).length = m
  | _, 0 => rfl
  | x, m + 1 => by simp [digs, digs_len n]
theorem digs_mod (n : Nat) : ∀ m x k, n * m ≤ k → digs n (x % 2 ^ k) m = digs n x m
  | 0, _, _, _ => rfl
  | m + 1, x, k, h => by
    rw [Nat.mul_succ] at h
    unfold digs
    have e1 : x % 2 ^ k % 2 ^ n = x % 2 ^ n := Nat.mod_mod_of_dvd x (Nat.pow_dvd_pow 2 (by (first | grind | omega)))
    have e2 : x % 2 ^ k / 2 ^ n = x / 2 ^ n % 2 ^ (k - n) := by
      rw [show (2 : Nat) ^ k = 2 ^ n * 2 ^ (k - n) by rw [← Nat.pow_add]; congr 1; (first | grind | omega)]
      exact Nat.mod_mul_right_div_self x (2 ^ n) (2 ^ (k - n))
    rw [e1, e2, digs_mod n m (x / 2 ^ n) (k - n) (by (first | grind | omega))]
theorem digs_add (n : Nat) : ∀ a b x, digs n x (a + b) = digs n x a ++ digs n (x / 2 ^ (n * a)) b
  | 0, b, x => by simp [digs]
  | a + 1, b, x => by
    rw [show a + 1 + b = (a + b) + 1 by (first | grind | omega)]
    simp only [digs, List.cons_append]
    rw [digs_add n a b, Nat.div_div_eq_div_mul, ← Nat.pow_add, show n + n * a = n * (a + 1) by rw [Nat.mul_succ]; (first | grind | omega)]
theorem digs_val (n : Nat) : ∀ m x, dval n (digs n x m) = ((x % 2 ^ (n * m) : Nat) : Int)
  | 0, x => by simp [digs, dval, Nat.mod_one]
  | m + 1, x => by
    simp only [digs, dval, digs_val n m]
    rw [Nat.mul_succ, Nat.add_comm, Nat.pow_add, Nat.mod_mul]
    simp
theorem digs_bound (n : Nat) : ∀ m x, ∀ d ∈ digs n x m, 0 ≤ d ∧ d < 2 ^ n
  | 0, _, d, h => nomatch h
  | m + 1, x, d, h => by
    simp only [digs, List.mem_cons] at h
    rcases h with rfl | h
    · have := Nat.mod_lt x (Nat.two_pow_pos n)
      exact ⟨by (first | grind | omega), by exact_mod_cast this⟩
    · exact digs_bound n m _ d h
noncomputable def put (cur : List Int) (L : Nat) (ds : List Int) : List Int := cur.take L ++ ds ++ cur.drop (L + ds.length)
theorem put_len {cur : List Int} {L : Nat} {ds : List Int} (h : L + ds.length ≤ cur.length) : (put cur L ds).length = cur.length := by
  unfold put; simp; (first | grind | omega)
theorem put_put {cur : List Int} {L : Nat} {a b : List Int} (h : L + a.length + b.length ≤ cur.length) : put (put cur L a) (L + a.length) b = put cur L (a ++ b) := by
  unfold put
  have h1 : (cur.take L).length = L := by simp; (first | grind | omega)
  have e1 : (cur.take L ++ a ++ cur.drop (L + a.length)).take (L + a.length) = cur.take L ++ a := by
    rw [List.take_append_of_le_length (by simp; (first | grind | omega)), List.take_of_length_le (by simp; (first | grind | omega))]
  have e2 : (cur.take L ++ a ++ cur.drop (L + a.length)).drop (L + a.length + b.length) = cur.drop (L + (a ++ b).length) := by
    rw [List.drop_append, List.drop_of_length_le (by simp; (first | grind | omega)), List.nil_append, List.drop_drop]
    congr 1
    simp
    (first | grind | omega)
  rw [e1, e2]
  simp
theorem put_one {cur : List Int} {L : Nat} {v : Int} (h : L < cur.length) : put cur L [v] = cur.set L v := by
  unfold put
  rw [List.set_eq_take_append_cons_drop, if_pos h]
  simp
end Mine
end
section
open PySem PySem.W PySem.Calls PyProof.Rows PySem.Spec PySem.SeqAt PySem.SeqRoads2 PySem.MeetsSeq
set_option Elab.async false
set_option maxRecDepth 100000
set_option linter.unusedVariables false
namespace Mine
noncomputable def suO (e : Expr) : Expr := exN e 0
noncomputable def suI (e : Expr) : Expr := exN e 1
noncomputable def iS : Stmt := stN (bodyAt 49) 1
noncomputable def iBody : List Stmt := dfB iS
noncomputable def iScope : Scope := dfS iS
noncomputable def iW : Stmt := stN (ifB (stN iBody 0)) 0
noncomputable def iC (i : Nat) : Expr := exE (stN iBody i)
noncomputable def iA (i j : Nat) : Expr := (caA (iC i)).getD j xE
noncomputable def iAsg (i : Nat) (x : Str) : Stmt := .Assign [.Name x (poE (asT (stN iBody i)))] (asE (stN iBody i)) (poS (stN iBody i))
noncomputable def iCall (i : Nat) : Stmt := .Expr (.Call (.Name (Str.ofString "inner") (poE (caF (iC i)))) [iA i 0, iA i 1, iA i 2] [] (poE (iC i))) (poS (stN iBody i))
theorem iBody_eq : iBody = [.If (ifT (stN iBody 0)) [.Assign [.Subscript (suO (asT iW)) (suI (asT iW)) (poE (asT iW))] (asE iW) (poS iW), .Return none (poS (stN (ifB (stN iBody 0)) 1))] [] (poS (stN iBody 0)),
  iAsg 1 (Str.ofString "mid"), iAsg 2 (Str.ofString "shift"), iAsg 3 (Str.ofString "upper"), iAsg 4 (Str.ofString "lower"), iCall 5, iCall 6] := by kernel_rfl
noncomputable def iPhi (l g : Addr) (n : Nat) : Rho := [(Str.ofString "a_digits", .fn l), (Str.ofString "inner", .fn g), (Str.ofString "n", .int n)]
noncomputable def iRho (l g : Addr) (n : Nat) (x L R : Int) : Rho := [(Str.ofString "x", .int x), (Str.ofString "L", .int L), (Str.ofString "R", .int R)] ++ iPhi l g n
noncomputable def iR1 (l g : Addr) (n : Nat) (x L R m : Int) : Rho := iRho l g n x L R ++ [(Str.ofString "mid", .int m)]
noncomputable def iR2 (l g : Addr) (n : Nat) (x L R m sh : Int) : Rho := iR1 l g n x L R m ++ [(Str.ofString "shift", .int sh)]
noncomputable def iR3 (l g : Addr) (n : Nat) (x L R m sh u : Int) : Rho := iR2 l g n x L R m sh ++ [(Str.ofString "upper", .int u)]
noncomputable def iR4 (l g : Addr) (n : Nat) (x L R m sh u lo : Int) : Rho := iR3 l g n x L R m sh u ++ [(Str.ofString "lower", .int lo)]
section
variable (phi : Addr → List D → Option D) (l g : Addr) (n : Nat) (x L R m sh u lo : Int)
theorem i_t : (evs phi 6).t iScope.names (iRho l g n x L R) (ifT (stN iBody 0)) = cmpI .Eq (L + 1) R := by kernel_rfl
theorem i_o : (evs phi 6).e iScope.names (iRho l g n x L R) (suO (asT iW)) = some (.fn l) := by kernel_rfl
theorem i_i : (evs phi 6).e iScope.names (iRho l g n x L R) (suI (asT iW)) = some (.int L) := by kernel_rfl
theorem i_v : (evs phi 6).e iScope.names (iRho l g n x L R) (asE iW) = some (.int x) := by kernel_rfl
theorem i_1 : (evs phi 6).e iScope.names (iRho l g n x L R) (asE (stN iBody 1)) = some (.int ((L + R).fdiv (2 ^ 1))) := by kernel_rfl
theorem i_2 : (evs phi 6).e iScope.names (iR1 l g n x L R m) (asE (stN iBody 2)) = binI .Mult (m - L) n := by kernel_rfl
theorem i_3 : (evs phi 6).e iScope.names (iR2 l g n x L R m sh) (asE (stN iBody 3)) = binI .RShift x sh := by kernel_rfl
theorem i_4 : (evs phi 6).e iScope.names (iR3 l g n x L R m sh u) (asE (stN iBody 4)) = bin2 .BitXor (some (.int x)) (binI .LShift u sh) := by kernel_rfl
theorem i_50 : (evs phi 6).e iScope.names (iR4 l g n x L R m sh u lo) (iA 5 0) = some (.int lo) := by kernel_rfl
theorem i_51 : (evs phi 6).e iScope.names (iR4 l g n x L R m sh u lo) (iA 5 1) = some (.int L) := by kernel_rfl
theorem i_52 : (evs phi 6).e iScope.names (iR4 l g n x L R m sh u lo) (iA 5 2) = some (.int m) := by kernel_rfl
theorem i_60 : (evs phi 6).e iScope.names (iR4 l g n x L R m sh u lo) (iA 6 0) = some (.int u) := by kernel_rfl
theorem i_61 : (evs phi 6).e iScope.names (iR4 l g n x L R m sh u lo) (iA 6 1) = some (.int m) := by kernel_rfl
theorem i_62 : (evs phi 6).e iScope.names (iR4 l g n x L R m sh u lo) (iA 6 2) = some (.int R) := by kernel_rfl
end
/-- the list that is written -/
structure LSt (W : Wd) (l : Addr) (cur : List Int) (s : Shared) : Prop where
  ok : OK W s
  ti : TI [l] s.heap
  nl : l ∉ tabs
  nb : W.base.get? l = none
  get : ∃ vs n, s.heap.get? l = some { cls := .type "list", data := .seq (List.toArray vs) n } ∧ AReps vs (cur.map .int)
section
variable {W : Wd} {k : Nat} {l : Addr} {cur : List Int} {s s' : Shared}
theorem LSt.alive (S : LSt W l cur s) : ∀ b ∈ [l], (s.heap.get? b).isSome := fun b hb => by
  simp only [List.mem_cons, List.not_mem_nil, or_false] at hb
  obtain ⟨vs, n, e, _⟩ := S.get
  rw [hb, e]; rfl
theorem LSt.ext (S : LSt W l cur s) (x : Ext s s') : LSt W l cur s' :=
  ⟨S.ok.ext x, S.ti.step x.tab S.alive fun b o _ e => x.kp' b o e, S.nl, S.nb, let ⟨vs, n, e, r⟩ := S.get; ⟨vs, n, of_gh (x.kp' _ _ (gh_get e S.nl)), r⟩⟩
theorem LSt.keep (S : LSt W l cur s) {mu : List Addr} {env : Env} {ρ : Rho} (F : FSt W [l] env ρ s') (h : ∀ o, s.heap.get? l = some o → s'.heap.get? l = some o) : LSt W l cur s' :=
  ⟨F.ok, F.ti.mono (fun b hb => .tail _ hb), S.nl, S.nb, let ⟨vs, n, e, r⟩ := S.get; ⟨vs, n, h _ e, r⟩⟩
theorem areps_set {L : Nat} {v : Value} {a : Int} : ∀ {vs : List Value} {cur : List Int}, AReps vs (cur.map .int) → ARep v (.int a) → ∀ {L : Nat}, AReps (vs.set L v) ((cur.set L a).map .int)
  | [], [], _, _, _ => trivial
  | [], _ :: _, r, _, _ => r.elim
  | _ :: _, [], r, _, _ => r.elim
  | u :: vs, c :: cur, r, rv, 0 => ⟨rv, r.2⟩
  | u :: vs, c :: cur, r, rv, L + 1 => ⟨r.1, areps_set (L := 0) r.2 rv⟩
theorem LSt.write {A : Around} {L : Nat} {t : Tok} {v : Value} {a : Int} {Q : Unit → Shared → Prop} (S : LSt W l cur s) (h : L < cur.length) (h2 : cur.length ≤ 100000) (rv : ARep v (.int a)) (q : ∀ s', Stp [l] s s' → LSt W l (cur.set L a) s' → Q () s') : wpF W A (setItem (.ref l) (.int L t) v) Q s := by
  obtain ⟨vs, n, e, r⟩ := S.get
  have hl : vs.length = cur.length := by rw [r.length, List.length_map]
  refine ki_setAt (n := n) e (by (first | grind | omega)) (by (first | grind | omega)) (by rw [List.size_toArray]; (first | grind | omega)) ?_
  have hs := Heap.SameBut.update s.heap l (Obj.mapSeq (·.setIfInBounds (L : Int).toNat v))
  generalize hH : s.heap.update l (Obj.mapSeq (·.setIfInBounds (L : Int).toNat v)) = H at hs ⊢
  have hg : H.get? l = some { cls := .type "list", data := .seq (List.toArray (vs.set L v)) n } := by
    rw [← hH, Heap.get?_update_self _ e (by simp [Obj.mapSeq]; rfl)]
    simp [Obj.mapSeq]
  have sx : SExt [l] s { s with heap := H } := SExt.at (tk := s.toks) hs S.nl
  have all : ∀ b, (s.heap.get? b).isSome → (H.get? b).isSome := fun b eb => by
    by_cases hb : b = l
    · rw [hb, hg]; rfl
    · rw [hs.2 b hb]; exact eb
  have ti' : TI [l] H := S.ti.step sx.tab S.alive fun b o hb e => sx.kp b o hb e
  refine q _ ⟨sx, all⟩ ⟨⟨ti'.mono (fun _ h => nomatch h), fun b o e => sx.kp b o (fun m => ?_) (S.ok.2 b o e)⟩, ti', S.nl, S.nb, _, n, hg, areps_set (L := 0) r rv⟩
  simp only [List.mem_cons, List.not_mem_nil, or_false] at m
  rw [m, S.nb] at e; cases e
end
end Mine
end
section
open PySem PySem.W PySem.Calls PyProof.Rows PySem.Spec PySem.SeqAt PySem.SeqRoads2 PySem.MeetsSeq
set_option Elab.async false
set_option maxRecDepth 100000
set_option linter.unusedVariables false
namespace Mine
section
variable {W : Wd} {k : Nat} {l : Addr}
theorem small_nat {y : Nat} (h : y < 2 ^ 62) : small (y : Int) = true := small_of (Int.natCast_nonneg _) (by (first | grind | omega))
/-- what the writer does -/
noncomputable def Writes (W : Wd) (k : Nat) (l g : Addr) (n j : Nat) : Prop := ∀ (L R x : Nat) (cur : List Int), L < R → R ≤ cur.length → cur.length ≤ 1000 → n * (cur.length + 1) ≤ 120 → R - L ≤ j → x < 2 ^ (n * (R - L)) → x < 2 ^ 62 →
  ∀ A s v1 v2 v3 (Q : Value → Shared → Prop), Room k A → LSt W l cur s → ARep v1 (.int x) → ARep v2 (.int L) → ARep v3 (.int R) → (∀ s', Stp [l] s s' → LSt W l (put cur L (digs n x (R - L))) s' → Q .none s') → wpF W A (call (.ref g) [v1, v2, v3]) Q s
/-- a call of the writer, as a statement -/
theorem fs_call {A : Around} {env : Env} {ρ : Rho} {s : Shared} {p cpos pos : Pos} {a0 a1 a2 : Expr} {g : Addr} {n j L R x : Nat} {cur : List Int} {Q : Flow → Shared → Prop} (wr : Writes W k l g n j) (hg : FnHas W g) (rm : Room k A) (S : FSt W [l] env ρ s) (T : LSt W l cur s) (E : EnvOK env)
    (hi : ρ.lookup (Str.ofString "inner") = some (.fn g)) (ha : EvTos W k env ρ [a0, a1, a2] [.int x, .int L, .int R]) (h1 : L < R) (h2 : R ≤ cur.length) (h3 : cur.length ≤ 1000) (h4 : n * (cur.length + 1) ≤ 120) (h5 : R - L ≤ j) (h6 : x < 2 ^ (n * (R - L))) (h7 : x < 2 ^ 62)
    (q : ∀ s', Stp [l] s s' → FSt W [l] env ρ s' → LSt W l (put cur L (digs n x (R - L))) s' → Q .next s') : wpF W A (exec (.Expr (.Call (.Name (Str.ofString "inner") p) [a0, a1, a2] [] cpos) pos) env) Q s := by
  refine wpAny_Expr ?_ (inter_fn E) rfl
  obtain ⟨o, fd, ho, hd⟩ := hg
  refine Call_Name rfl (ev_name hi A s _ rm S.ok E S.rd fun v s₁ x₁ r₁ => ?_)
  obtain rfl : v = .ref g := r₁
  have ok₁ := S.ok.ext x₁
  refine callWith_function (o := o) (fd := fd) (ev_args ha A s₁ _ rm ok₁ E (S.rd.keeps x₁.kp') fun vs s₂ x₂ r₂ => ⟨⟨(ok₁.ext x₂).all _ _ ho, hd⟩, ?_⟩)
  obtain ⟨v1, v2, v3, rfl, c1, c2, c3⟩ := reps3 r₂
  have x₁₂ := x₁.trans x₂
  refine wr L R x cur h1 h2 h3 h4 h5 h6 h7 A s₂ v1 v2 v3 _ rm (T.ext x₁₂) c1 c2 c3 fun s' st T' => ?_
  have st' : Stp [l] s s' := (Stp.of x₁₂).chain st (fun b hb => .inl hb) (T.ext x₁₂).ti T.alive
  exact q s' st' (S.aside st') T'
theorem i_inner {name qual : Str} {clos : List (Str × Addr)} {g : Addr} {n : Nat} (B : BaseOK W) (FO : FlagsOK W) (M : Made name qual (dfA iS) iBody iScope clos W.base g)
    (hφ : ∀ x d, (iPhi l g n).lookup x = some d → okName x = true ∧ iScope.names.lookup x = some .free ∧ ∃ c v, clos.lookup x = some c ∧ W.base.IsCell c (some v) ∧ Rep W.base v d)
    (hn : n ≤ 10) : ∀ j, Writes W (8 + j) l g n j
  | 0 => fun L R x cur h1 h2 h3 h4 h5 => by (first | grind | omega)
  | j + 1 => fun L R x cur h1 h2 h3 h4 h5 h6 h7 A s v1 v2 v3 Q rm T r1 r2 r3 q => by
    have ih := i_inner B FO M hφ hn j
    have hphi : PhiOK W (8 + j) (fun _ _ => none) := fun f ds d h => nomatch h
    have sd := evs_sound (by (first | grind | omega)) B FO hphi 6
    refine call_closure (k := 8 + j) (mu := [l]) (params := [Str.ofString "x", Str.ofString "L", Str.ofString "R"]) (as := [.int x, .int L, .int R]) (φ := iPhi l g n) B M (fun doc pm c' ctv => by kernel_rfl) rm T.ok T.ti (fun b hb => by
        simp only [List.mem_cons, List.not_mem_nil, or_false] at hb; rw [hb]; exact T.nl) T.alive (fun b hb => by
        simp only [List.mem_cons, List.not_mem_nil, or_false] at hb; rw [hb]; exact T.nb)
      (by have : iScope.names.all (fun x => x.2 != .cell) = true := by first | kernel_rfl | decide +kernel
          intro x hx; have := List.all_eq_true.mp this x hx; simpa using this) (by kernel_rfl) (by kernel_rfl) (by kernel_rfl) (by first | kernel_rfl | decide +kernel)
      (by have : [Str.ofString "x", Str.ofString "L", Str.ofString "R"].all (fun y => okName y && iScope.names.lookup y == some .local) = true := by first | kernel_rfl | decide +kernel
          intro x hx; have := List.all_eq_true.mp this x hx; simpa using this) hφ ⟨r1, r2, r3, trivial⟩ fun env s₁ e1 e2 E fr x₁ kp S => ?_
    have K : KindOK iScope.names env := by rw [← e1]; exact KindOK.self
    have hkn : ∀ y, env.kindOf y = iScope.names.lookup y := fun y => by unfold Env.kindOf; rw [e1]
    have rm' := rm.deeper env
    have S0 : FSt W [l] env (iRho l g n x L R) s₁ := S
    have T0 : LSt W l cur s₁ := T.keep (mu := []) S0 fun o e => kp l o e
    have fin : ∀ s₂, Stp (env.locals :: [l]) s₁ s₂ → LSt W l (put cur L (digs n x (R - L))) s₂ → Q .none s₂ := fun s₂ st T₂ => by
      refine q s₂ ⟨(x₁.to (mu := [l])).chain st.x (fun b hb => ?_) S0.ti T0.alive, fun b e => st.all b (x₁.al b (fun m => nomatch m) e)⟩ T₂
      rcases List.mem_cons.mp hb with rfl | hb
      · exact .inr fr
      · exact .inl hb
    rw [iBody_eq]
    by_cases hLR : L + 1 = R
    · have ht : (evs (fun _ _ => none) 6).t iScope.names (iRho l g n x L R) (ifT (stN iBody 0)) = some true := by
        rw [i_t]; unfold cmpI; simp; (first | grind | omega)
      refine wpAny_execs_cons (wpAny_If (sd.t ht K _ s₁ _ rm' S0.ok E S0.rd fun s₂ x₂ => ?_))
      simp only [if_true]
      have S2 := S0.ext x₂
      have T2 := T0.ext x₂
      refine wpAny_execs_cons (wpAny_Assign_Subscript ?_ (swaps_plain (by kernel_rfl)))
      refine sd.e (i_v _ l g n x L R) K _ s₂ _ rm' S2.ok E S2.rd fun v s₃ x₃ r₃ => ?_
      have S3 := S2.ext x₃
      refine sd.e (i_o _ l g n x L R) K _ s₃ _ rm' S3.ok E S3.rd fun v' s₄ x₄ r₄ => ?_
      obtain rfl : v' = .ref l := r₄
      have S4 := S3.ext x₄
      refine sd.e (i_i _ l g n x L R) K _ s₄ _ rm' S4.ok E S4.rd fun v'' s₅ x₅ r₅ => ?_
      obtain ⟨t, rfl⟩ : ∃ t, v'' = .int L t := r₅
      have x25 : Ext s₁ s₅ := x₂.trans (x₃.trans (x₄.trans x₅))
      have T5 := T0.ext x25
      refine T5.write (by (first | grind | omega)) (by (first | grind | omega)) (show ARep v (.int x) from r₃) fun s₆ st₆ T₆ => ?_
      refine wpAny_execs_cons (wpAny_Return_none ?_)
      have S5 := S0.ext x25
      refine fin s₆ ⟨(x25.to (mu := env.locals :: [l])).chain st₆.x (fun b hb => .inl (.tail _ hb)) T5.ti fun b hb => S5.al b hb, fun b e => st₆.all b (x25.al b (fun m => nomatch m) e)⟩ ?_
      subst hLR
      rw [show L + 1 - L = 1 by (first | grind | omega)] at h6 ⊢
      rw [Nat.mul_one] at h6
      have e : digs n x 1 = [(x : Int)] := by simp [digs, Nat.mod_eq_of_lt h6]
      rw [e, put_one (by (first | grind | omega))]
      exact T₆
    · have ht : (evs (fun _ _ => none) 6).t iScope.names (iRho l g n x L R) (ifT (stN iBody 0)) = some false := by
        rw [i_t]; unfold cmpI; simp; (first | grind | omega)
      obtain ⟨m, hm, hm1, hm2, _⟩ := mid_of (by assumption) hLR
      have h_1 := i_1 (fun _ _ => none) l g n x L R
      rw [hm] at h_1
      have hml : n * (m - L) ≤ 120 := Nat.le_trans (Nat.mul_le_mul_left n (by (first | grind | omega) : m - L ≤ cur.length + 1)) h4
      have h_2 : (evs (fun _ _ => none) 6).e iScope.names (iR1 l g n x L R m) (asE (stN iBody 2)) = some (.int ((n * (m - L) : Nat) : Int)) := by
        rw [i_2]
        have : small (n : Int) = true := small_of (by (first | grind | omega)) (by (first | grind | omega))
        unfold binI
        simp only [this, Bool.or_true, if_true]
        congr 3
        rw [Int.natCast_mul, Int.ofNat_sub (by (first | grind | omega)), Int.mul_comm]
      have h_3 : (evs (fun _ _ => none) 6).e iScope.names (iR2 l g n x L R m ((n * (m - L) : Nat) : Int)) (asE (stN iBody 3)) = some (.int ((x / 2 ^ (n * (m - L)) : Nat) : Int)) := by
        rw [i_3]
        unfold binI
        simp only
        rw [if_pos (by simp only [decide_eq_true_eq]; (first | grind | omega)), Int.toNat_natCast]
        congr 3
        rw [Int.fdiv_eq_ediv_of_nonneg _ (Int.le_of_lt (Int.pow_pos (by decide)))]
        simp
      have hu : x / 2 ^ (n * (m - L)) ≤ x := Nat.div_le_self _ _
      have h_4 : (evs (fun _ _ => none) 6).e iScope.names (iR3 l g n x L R m ((n * (m - L) : Nat) : Int) ((x / 2 ^ (n * (m - L)) : Nat) : Int)) (asE (stN iBody 4)) = some (.int ((x % 2 ^ (n * (m - L)) : Nat) : Int)) := by
        rw [i_4]
        have e3 : small (((x / 2 ^ (n * (m - L)) : Nat)) : Int) = true := small_nat (Nat.lt_of_le_of_lt hu h7)
        have p3 : binI .LShift (((x / 2 ^ (n * (m - L)) : Nat)) : Int) ((n * (m - L) : Nat) : Int) = some (.int (((x / 2 ^ (n * (m - L)) : Nat) : Int) * 2 ^ (n * (m - L)))) := by
          unfold binI
          simp only [e3, Bool.true_and]
          rw [if_pos (by simp only [Bool.and_eq_true, decide_eq_true_eq]; (first | grind | omega)), Int.toNat_natCast]
        rw [p3]
        show some (D.int (Builtin.bitXor _ _)) = _
        rw [xor_low]
      refine wpAny_execs_cons (wpAny_If (sd.t ht K _ s₁ _ rm' S0.ok E S0.rd fun s₂ x₂ => ?_))
      simp only [Bool.false_eq_true, if_false]
      refine wpAny_execs_nil ?_
      have S2 := S0.ext x₂
      have T2 := T0.ext x₂
      refine wpAny_execs_cons (fs_assign rm' S2 E (by first | kernel_rfl | decide +kernel) (by rw [hkn]; decide +kernel) (sd.e h_1 K) (by kernel_rfl) fun s₃ st₃ k₃ S3 => ?_)
      have S3' : FSt W [l] env (iR1 l g n x L R m) s₃ := S3
      have T3 : LSt W l cur s₃ := T2.keep (mu := []) S3' fun o e => k₃ l (.head _) o e
      refine wpAny_execs_cons (fs_assign rm' S3' E (by first | kernel_rfl | decide +kernel) (by rw [hkn]; decide +kernel) (sd.e h_2 K) (by kernel_rfl) fun s₄ st₄ k₄ S4 => ?_)
      have S4' : FSt W [l] env (iR2 l g n x L R m ((n * (m - L) : Nat) : Int)) s₄ := S4
      have T4 : LSt W l cur s₄ := T3.keep (mu := []) S4' fun o e => k₄ l (.head _) o e
      refine wpAny_execs_cons (fs_assign rm' S4' E (by first | kernel_rfl | decide +kernel) (by rw [hkn]; decide +kernel) (sd.e h_3 K) (by kernel_rfl) fun s₅ st₅ k₅ S5 => ?_)
      have S5' : FSt W [l] env (iR3 l g n x L R m ((n * (m - L) : Nat) : Int) ((x / 2 ^ (n * (m - L)) : Nat) : Int)) s₅ := S5
      have T5 : LSt W l cur s₅ := T4.keep (mu := []) S5' fun o e => k₅ l (.head _) o e
      refine wpAny_execs_cons (fs_assign rm' S5' E (by first | kernel_rfl | decide +kernel) (by rw [hkn]; decide +kernel) (sd.e h_4 K) (by kernel_rfl) fun s₆ st₆ k₆ S6 => ?_)
      have S6' : FSt W [l] env (iR4 l g n x L R m ((n * (m - L) : Nat) : Int) ((x / 2 ^ (n * (m - L)) : Nat) : Int) ((x % 2 ^ (n * (m - L)) : Nat) : Int)) s₆ := S6
      have T6 : LSt W l cur s₆ := T5.keep (mu := []) S6' fun o e => k₆ l (.head _) o e
      have hx1 : x % 2 ^ (n * (m - L)) < 2 ^ (n * (m - L)) := Nat.mod_lt _ (Nat.two_pow_pos _)
      have hx2 : x % 2 ^ (n * (m - L)) ≤ x := Nat.mod_le _ _
      refine wpAny_execs_cons (fs_call ih (made_has M) rm' S6' T6 E (by kernel_rfl) (.cons (by kernel_rfl) (sd.e (i_50 ..) K) (.cons (by kernel_rfl) (sd.e (i_51 ..) K) (.cons (by kernel_rfl) (sd.e (i_52 ..) K) .nil))) hm1 (by (first | grind | omega)) h3 h4 (by (first | grind | omega)) hx1 (by (first | grind | omega)) fun s₇ st₇ S7 T7 => ?_)
      have hpl : (put cur L (digs n (x % 2 ^ (n * (m - L))) (m - L))).length = cur.length := put_len (by rw [digs_len]; (first | grind | omega))
      have hx3 : x / 2 ^ (n * (m - L)) < 2 ^ (n * (R - m)) := by
        rw [Nat.div_lt_iff_lt_mul (Nat.two_pow_pos _), ← Nat.pow_add, ← Nat.mul_add]
        rw [show R - m + (m - L) = R - L by (first | grind | omega)]
        exact h6
      refine wpAny_execs_cons (fs_call ih (made_has M) rm' S7 T7 E (by kernel_rfl) (.cons (by kernel_rfl) (sd.e (i_60 ..) K) (.cons (by kernel_rfl) (sd.e (i_61 ..) K) (.cons (by kernel_rfl) (sd.e (i_62 ..) K) .nil))) hm2 (by rw [hpl]; (first | grind | omega)) (by rw [hpl]; exact h3) (by rw [hpl]; exact h4) (by (first | grind | omega)) hx3 (by (first | grind | omega)) fun s₈ st₈ S8 T8 => ?_)
      refine wpAny_execs_nil ?_
      have wk : ∀ {a b : Shared}, Stp [env.locals] a b → Stp (env.locals :: [l]) a b := fun h => ⟨h.x.weak fun b hb => by
        simp only [List.mem_cons, List.not_mem_nil, or_false] at hb; rw [hb]; exact .head _, h.all⟩
      have wk' : ∀ {a b : Shared}, Stp [l] a b → Stp (env.locals :: [l]) a b := fun h => ⟨h.x.weak fun b hb => .tail _ hb, h.all⟩
      have c1 := (wk st₃).chain (wk st₄) (fun b hb => .inl hb) S3'.ti S2.al
      have c2 := c1.chain (wk st₅) (fun b hb => .inl hb) S4'.ti S2.al
      have c3 := c2.chain (wk st₆) (fun b hb => .inl hb) S5'.ti S2.al
      have c4 := c3.chain (wk' st₇) (fun b hb => .inl hb) S6'.ti S2.al
      have c5 := c4.chain (wk' st₈) (fun b hb => .inl hb) S7.ti S2.al
      refine fin s₈ ((Stp.of x₂).chain c5 (fun b hb => .inl hb) S2.ti S0.al) ?_
      have e : put cur L (digs n x (R - L)) = put (put cur L (digs n (x % 2 ^ (n * (m - L))) (m - L))) m (digs n (x / 2 ^ (n * (m - L))) (R - m)) := by
        rw [show R - L = (m - L) + (R - m) by (first | grind | omega), digs_add, digs_mod n (m - L) x _ (Nat.le_refl _)]
        have := put_put (cur := cur) (L := L) (a := digs n x (m - L)) (b := digs n (x / 2 ^ (n * (m - L))) (R - m)) (by rw [digs_len, digs_len]; (first | grind | omega))
        rw [digs_len, show L + (m - L) = m by (first | grind | omega)] at this
        exact this.symm
      rw [e]
      exact T8
end
end Mine
end
section
open PySem PySem.W PySem.Calls PyProof.Rows PySem.Spec PySem.SeqAt PySem.SeqRoads2 PySem.MeetsSeq
set_option Elab.async false
set_option maxRecDepth 100000
set_option linter.unusedVariables false
namespace Mine
noncomputable def biL (e : Expr) : Expr := exN e 0
noncomputable def biR (e : Expr) : Expr := exN e 1
noncomputable def biP (e : Expr) : Pos := poE e
noncomputable def j0 : Stmt := stN (bodyAt 49) 0
noncomputable def j2 : Stmt := stN (bodyAt 49) 2
noncomputable def jC : Expr := exE (stN (ifB j2) 0)
noncomputable def jA (i : Nat) : Expr := (caA jC).getD i xE
noncomputable def j3 : Stmt := stN (bodyAt 49) 3
theorem j_eq : bodyAt 49 = [.Assign [.Name (Str.ofString "a_digits") (poE (asT j0))] (.BinOp (biL (asE j0)) .Mult (biR (asE j0)) (biP (asE j0))) (poS j0),
  .FunctionDef (Str.ofString "inner") (dfA iS) iBody [] none [] iScope none (Str.ofString "inner") ⟨73, 4, 82, 28⟩,
  .If (ifT j2) [.Expr (.Call (.Name (Str.ofString "inner") (poE (caF jC))) [jA 0, jA 1, jA 2] [] (poE jC)) (poS (stN (ifB j2) 0))] [] (poS j2),
  .Return (some (.Name (Str.ofString "a_digits") (poE (reE j3)))) (poS j3)] := by kernel_rfl
noncomputable def jR0 (a : Int) (n : Nat) : Rho := [(Str.ofString "a", .int a), (Str.ofString "n", .int n)]
noncomputable def jR1 (a : Int) (n : Nat) (d : D) : Rho := jR0 a n ++ [(Str.ofString "a_digits", d)]
noncomputable def jR2 (a : Int) (n : Nat) (d : D) (g : Addr) : Rho := jR1 a n d ++ [(Str.ofString "inner", .fn g)]
section
variable (phi : Addr → List D → Option D) (a : Int) (n : Nat) (d : D) (g : Addr) (as : List At)
theorem j_l : (evs phi 8).e (namesAt 49) (jR0 a n) (biL (asE j0)) = some (.lst [.int 0]) := by kernel_rfl
theorem j_r : (evs phi 8).e (namesAt 49) (jR0 a n) (biR (asE j0)) = binI .FloorDiv (Builtin.Int.intBits a + n - 1) n := by kernel_rfl
theorem j_t : (evs phi 8).t (namesAt 49) (jR2 a n (.lst as) g) (ifT j2) = some (a != 0) := by kernel_rfl
theorem j_a0 : (evs phi 8).e (namesAt 49) (jR2 a n (.lst as) g) (jA 0) = some (.int a) := by kernel_rfl
theorem j_a1 : (evs phi 8).e (namesAt 49) (jR2 a n (.lst as) g) (jA 1) = some (.int 0) := by kernel_rfl
theorem j_a2 : (evs phi 8).e (namesAt 49) (jR2 a n (.lst as) g) (jA 2) = callB "len" [.lst as] := by kernel_rfl
end
theorem put_all {cur ds : List Int} (h : cur.length = ds.length) : put cur 0 ds = ds := by
  unfold put; rw [List.take_zero, List.nil_append, Nat.zero_add, ← h, List.drop_length, List.append_nil]
section
variable {W : Wd} {k : Nat} {P : Params}
theorem TI.list {X : List Addr} {h : Heap} {l : Addr} {vs : Array Value} {n : Nat} {c : Value} (x : TI X h) (hl : h.get? l = some { cls := c, data := .seq vs n }) : TI [l] h := fun t ht => by
  obtain ⟨ps, hp, hok, hx⟩ := x t ht
  refine ⟨ps, hp, hok, ?_⟩
  rcases hx with hx | ⟨c, hc, _, hr⟩
  · exact .inl hx
  · refine .inr ⟨c, hc, fun m => ?_, hr⟩
    simp only [List.mem_cons, List.not_mem_nil, or_false] at m
    obtain ⟨c2, o, ws, t, e, ho, hd, _⟩ := hr
    cases e
    have := of_gh ho
    rw [m, hl] at this
    cases this
    cases hd
noncomputable def mOf (a : Nat) (n : Nat) : Nat := (Builtin.Int.intBits (a : Int) + n - 1) / n
theorem bits_lt (a : Nat) : a < 2 ^ Builtin.Int.intBits (a : Int) := by
  unfold Builtin.Int.intBits
  split
  · rename_i h; have : a = 0 := by simpa using h
    subst this; decide
  · rw [Int.natAbs_natCast]; exact Nat.lt_log2_self
theorem bits_le {a : Nat} (h : a < 2 ^ 62) : Builtin.Int.intBits (a : Int) ≤ 62 := by
  unfold Builtin.Int.intBits
  split
  · (first | grind | omega)
  · rename_i hne
    have h0 : a ≠ 0 := by intro q; apply hne; simp [q]
    rw [Int.natAbs_natCast]
    have := (Nat.log2_lt h0).mpr h
    (first | grind | omega)
theorem mOf_le {a n : Nat} (hn : 1 ≤ n) : Builtin.Int.intBits (a : Int) ≤ n * mOf a n ∧ n * mOf a n ≤ Builtin.Int.intBits (a : Int) + n - 1 := by
  unfold mOf
  generalize Builtin.Int.intBits (a : Int) = b
  have h1 := Nat.div_add_mod (b + n - 1) n
  have h2 := Nat.mod_lt (b + n - 1) (by (first | grind | omega) : n > 0)
  (first | grind | omega)
theorem mOf_zero {n : Nat} (hn : 1 ≤ n) : mOf 0 n = 0 := by
  unfold mOf
  have : Builtin.Int.intBits ((0 : Nat) : Int) = 0 := by decide
  rw [this]
  exact Nat.div_eq_of_lt (by (first | grind | omega))

set_option maxHeartbeats 1000000 in
theorem i2d {n a : Nat} (X : (hd.heap_39 P).In W.base) (B : BaseOK W) (FO : FlagsOK W) (N : NestOK W) (hn1 : 1 ≤ n) (hn : n ≤ 10) (ha : a < 2 ^ 62) :
    CallOK W (9 + mOf a n) 49 [.int a, .int n] (.lst ((digs n a (mOf a n)).map .int)) := fun A s vs Q rm ok r q => by
  have hnm : (namesAt 49).map (·.1) |>.Nodup := by first | kernel_rfl | decide +kernel
  obtain ⟨v1, v2, rfl, r1, r2⟩ := reps2 r
  have hci : ∀ L a, CellsIn (callEnvC (fdAt P 49) L a) := fun L a y hy => by
    have hy' : (namesAt 49).lookup y = some .cell := hy
    obtain ⟨c, hc⟩ := cells_in (namesAt 49) (L + 1) [] y (mem_of_lookupN hy')
    show ((cellsFrom (L + 1) (namesAt 49) []).lookup y).isSome
    rw [lookup_nodup (cells_nodup (namesAt 49) (L + 1) [] hnm List.nodup_nil (fun _ h => nomatch h)) hc]; rfl
  have hk3 : ∀ y ∈ [Str.ofString "a", Str.ofString "n"], okName y = true ∧ ((namesAt 49).lookup y = some .local ∨ (namesAt 49).lookup y = some .cell) := fun y hy => by
    have hk2 : [Str.ofString "a", Str.ofString "n"].all (fun y => okName y && ((namesAt 49).lookup y == some .local || (namesAt 49).lookup y == some .cell)) = true := by first | kernel_rfl | decide +kernel
    have := List.all_eq_true.mp hk2 y hy; simpa using this
  refine wpAny_call (codeAny_call_cells (fd := fdAt P 49) (o := ob P 49) (body := bodyAt 49) (binds := [Str.ofString "a", Str.ofString "n"].zip [v1, v2]) (by have := rm.2.1; (first | grind | omega)) (ok.all _ _ (X _ _ (by kernel_rfl))) (by kernel_rfl) (B.lim.keeps ok.all) ((codeRec_of X (by kernel_rfl)).keeps ok.all) (by kernel_rfl) (by kernel_rfl) (by kernel_rfl) (fun x hx => ?_) (fun s₁ x => ?_) (by kernel_rfl) (by kernel_rfl) (by kernel_rfl))
  · have hm := zip_fst_mem (vs := [v1, v2]) (List.mem_map.mpr ⟨x, hx, rfl⟩)
    exact (hk3 x.1 hm).2.imp id fun h => ⟨h, hci s.heap.objs.size 49 x.1 h⟩
  have hcode : (callEnvC (fdAt P 49) s.heap.objs.size 49).code = .ref 48 := by kernel_rfl
  have hqual : qualnameIn (callEnvC (fdAt P 49) s.heap.objs.size 49) (Str.ofString "inner") (Str.ofString "inner") = Str.ofString "_int2digits.<locals>.inner" := by kernel_rfl
  have e1 : (callEnvC (fdAt P 49) s.heap.objs.size 49).scope.names = namesAt 49 := by kernel_rfl
  have E : EnvOK (callEnvC (fdAt P 49) s.heap.objs.size 49) := ⟨by kernel_rfl, by kernel_rfl, by kernel_rfl⟩
  have ci : CellsIn (callEnvC (fdAt P 49) s.heap.objs.size 49) := hci _ _
  have hcn : ((callEnvC (fdAt P 49) s.heap.objs.size 49).cells.map (·.1)).Nodup := cells_nodup (namesAt 49) _ [] hnm List.nodup_nil fun _ h => nomatch h
  generalize callEnvC (fdAt P 49) s.heap.objs.size 49 = env at *
  have F : FEnv (namesAt 49) env := ⟨E, e1, ci⟩
  have K : KindOK (namesAt 49) env := kindF F
  have hkn : ∀ y, env.kindOf y = (namesAt 49).lookup y := fun y => by unfold Env.kindOf; rw [e1]
  obtain ⟨S, x₁, fr⟩ := enter (params := [Str.ofString "a", Str.ofString "n"]) (vals := [v1, v2]) (ds := [.int a, .int n]) ok x hcn ci r (fun d hd => by
    simp only [List.mem_cons, List.not_mem_nil, or_false] at hd
    rcases hd with rfl | rfl <;> rfl) (by first | kernel_rfl | decide +kernel) (fun y hy => ⟨(hk3 y hy).1, by rw [hkn]; exact (hk3 y hy).2⟩)
  have S1 : Stt W (gh s.heap) env (jR0 a n) none s₁ := S
  have hfree : ∀ y, (y, NameKind.free) ∈ iScope.names → env.kindOf y = some .cell := fun y hy => by
    have : iScope.names.all (fun y => y.2 != .free || (namesAt 49).lookup y.1 == some .cell) = true := by first | kernel_rfl | decide +kernel
    have := List.all_eq_true.mp this _ hy
    rw [hkn]
    simpa using this
  obtain ⟨hcl, hcl2⟩ := clos_of hfree ci
  have e9 : 9 + mOf a n = (8 + mOf a n) + 1 := by (first | grind | omega)
  rw [e9] at rm
  have rm' := rm.deeper env
  have hphi0 : PhiOK W (8 + mOf a n) (fun _ _ => none) := fun f ds d h => nomatch h
  have sd0 := evs_sound (by (first | grind | omega)) B FO hphi0 8
  obtain ⟨hm1, hm2⟩ := mOf_le (a := a) hn1
  have hbits := bits_le ha
  have hr : (evs (fun _ _ => none) 8).e (namesAt 49) (jR0 a n) (biR (asE j0)) = some (.int (mOf a n : Nat)) := by
    rw [j_r]
    have h2 : small (n : Int) = true := small_of (by (first | grind | omega)) (by (first | grind | omega))
    have h3 : ((n : Int) != 0) = true := by simp; (first | grind | omega)
    unfold binI
    simp only [h2, h3, Bool.true_and, if_true]
    congr 3
    rw [Int.fdiv_eq_ediv_of_nonneg _ (by (first | grind | omega))]
    unfold mOf
    rw [Int.natCast_ediv, Int.ofNat_sub (by (first | grind | omega))]
    simp
  have hmle : mOf a n ≤ 71 := Nat.le_trans (Nat.le_mul_of_pos_left _ hn1) (by (first | grind | omega))
  rw [j_eq]
  have okx : ∀ {s' : Shared}, Ext s₁ s' → Stt W (gh s.heap) env (jR0 a n) none s' := fun x => S1.ext2 x (fun _ _ e => e) (fun b o e => x.kp' b o (S1.keep b o e)) S1.hbm
  refine wp_false (wpAny_execs_cons (wpAny_Assign_Name (wpAny_BinOp (sd0.e (j_l _ a n) K _ s₁ _ rm' S1.ok E S1.rd fun va s₂ x₂ r₂ => sd0.e hr K _ s₂ _ rm' (okx x₂).ok E (okx x₂).rd fun vb s₃ x₃ r₃ => ?_)) (swaps_plain rfl)))
  have x13 := x₂.trans x₃
  refine bin_repF (by (first | grind | omega)) (by (first | grind | omega)) rm' (okx x13).ok (r₂.keeps x₃.kp') r₃ fun l s₄ x₄ hl rl => ?_
  rw [Int.toNat_natCast] at rl
  have x14 := x13.trans x₄
  have S4 := okx x14
  have l1 : s₁.heap.get? l = none := by
    cases e : s₁.heap.get? l with
    | none => rfl
    | some o => have := x13.al l (fun m => nomatch m) (by rw [e]; rfl); rw [hl] at this; cases this
  have lm : l ∉ muOf env none := fun m => by have := S1.al l m; rw [l1] at this; cases this
  refine S4.store E (x := Str.ofString "a_digits") (d := .fn l) (by first | kernel_rfl | decide +kernel) (.inr ⟨by rw [hkn]; decide +kernel, ci _ (by rw [hkn]; decide +kernel)⟩) rfl rfl (fun e => nomatch e) fun s₅ st₅ S₅ => ?_
  have S5 : Stt W (gh s.heap) env (jR1 a n (.fn l)) none s₅ := S₅
  refine wp_false (wpAny_execs_cons (nestDef_K (by kernel_rfl) (by kernel_rfl) (by kernel_rfl) ?_))
  rw [hqual]
  refine wp_false (make_fn (t := ⟨48, 44, ⟨73, 4, 82, 28⟩, Str.ofString "_int2digits.<locals>.inner"⟩) (.head _) N S5.ok hcl E hcode fun g s₆ x₆ hg M => ?_)
  have S6 : Stt W (gh s.heap) env (jR1 a n (.fn l)) none s₆ := S5.ext2 x₆ (fun _ _ e => e) (fun b o e => x₆.kp' b o (S5.keep b o e)) S5.hbm
  refine wp_false (S6.store E (x := Str.ofString "inner") (d := .fn g) (by first | kernel_rfl | decide +kernel) (.inr ⟨by rw [hkn]; decide +kernel, ci _ (by rw [hkn]; decide +kernel)⟩) rfl rfl (fun e => nomatch e) fun s₇ st₇ S₇ => ?_)
  have S7 : Stt W (gh s.heap) env (jR2 a n (.fn l) g) none s₇ := S₇
  have gm : g ∉ muOf env none := fun m => by have := S5.al g m; rw [hg] at this; cases this
  have rl7 : Rep (gh s₇.heap) (.ref l) (.lst ((List.replicate (mOf a n) (0 : Int)).map .int)) := by
    obtain ⟨p, ws, n0, e, hp, rp⟩ := rl
    cases e
    refine ⟨l, ws, n0, rfl, st₇.x.kp l _ lm (x₆.kp' l _ (st₅.x.kp l _ lm hp)), ?_⟩
    rw [List.map_replicate]; exact rp
  obtain ⟨_, ws, n0, eq0, hp7, rp7⟩ := id rl7
  cases eq0
  have hgl : g ≠ l := fun e => by
    obtain ⟨p, ws', n1, eq1, hp4, _⟩ := rl
    cases eq1
    have h5 := of_gh (st₅.x.kp l _ lm hp4)
    rw [e, h5] at hg; cases hg
  have M7 : Made (Str.ofString "inner") (Str.ofString "_int2digits.<locals>.inner") (dfA iS) iBody iScope (clOf iScope.names env.cells []) (gh s₇.heap) g :=
    M.keeps' (fun o e => st₇.x.kp g o gm e) fun c hc => by
      have hcm := codeRec_notMu S6 hc
      obtain ⟨c2, o, vs, t, e, ho, r⟩ := hc
      cases e
      exact ⟨c, o, vs, t, rfl, st₇.x.kp c o hcm ho, r⟩
  have M' : Made (Str.ofString "inner") (Str.ofString "_int2digits.<locals>.inner") (dfA iS) iBody iScope (clOf iScope.names env.cells []) (W.up (hideAll (gh s₇.heap) [l])).base g :=
    M7.keeps' (fun o e => hideAll_get _ e fun m => by simp only [List.mem_cons, List.not_mem_nil, or_false] at m; exact hgl m) fun c hc => by
      obtain ⟨c2, o, vs, t, e, ho, hd, r⟩ := hc
      cases e
      refine ⟨c, o, vs, t, rfl, hideAll_get _ ho fun m => ?_, hd, r⟩
      simp only [List.mem_cons, List.not_mem_nil, or_false] at m
      rw [m, hp7] at ho; cases ho; cases hd
  have hsl : s.heap.get? l = none := by
    cases e : s.heap.get? l with
    | none => rfl
    | some o => have := x₁.al l (fun m => nomatch m) (by rw [e]; rfl); rw [l1] at this; cases this
  have kb : Keep W.base (hideAll (gh s₇.heap) [l]) := fun b o e => hideAll_get _ (S7.ok.2 b o e) fun m => by
    simp only [List.mem_cons, List.not_mem_nil, or_false] at m
    have := ok.all b o e
    rw [m, hsl] at this; cases this
  have T7 : LSt (W.up (hideAll (gh s₇.heap) [l])) l (List.replicate (mOf a n) 0) s₇ :=
    ⟨⟨S7.ok.1, fun b o e => of_hideAll _ e⟩, S7.ti.list (of_gh hp7), gh_notin hp7, hideAll_none _ (.head _), ws, n0, of_gh hp7, rp7⟩
  have hφ : ∀ x d, (iPhi l g n).lookup x = some d → okName x = true ∧ iScope.names.lookup x = some .free ∧ ∃ c v, (clOf iScope.names env.cells []).lookup x = some c ∧ (W.up (hideAll (gh s₇.heap) [l])).base.IsCell c (some v) ∧ Rep (W.up (hideAll (gh s₇.heap) [l])).base v d := fun x d hx => by
    have hx3 : (jR2 a n (.fn l) g).lookup x = some d ∧ x ∈ [Str.ofString "a_digits", Str.ofString "inner", Str.ofString "n"] ∧ ((∃ f, d = .fn f) ∨ ∃ a, d = .at a) := by
      have hm := mem_of_lookupG hx
      unfold iPhi at hm
      simp only [List.mem_cons, Prod.mk.injEq, List.not_mem_nil, or_false] at hm
      rcases hm with ⟨rfl, rfl⟩ | ⟨rfl, rfl⟩ | ⟨rfl, rfl⟩
      · exact ⟨by kernel_rfl, by simp, .inl ⟨_, rfl⟩⟩
      · exact ⟨by kernel_rfl, by simp, .inl ⟨_, rfl⟩⟩
      · exact ⟨by kernel_rfl, by simp, .inr ⟨_, rfl⟩⟩
    have hl : [Str.ofString "a_digits", Str.ofString "inner", Str.ofString "n"].all (fun y => okName y && iScope.names.lookup y == some .free && (namesAt 49).lookup y == some .cell) = true := by first | kernel_rfl | decide +kernel
    have hl' := List.all_eq_true.mp hl x hx3.2.1
    simp only [Bool.and_eq_true, beq_iff_eq] at hl'
    obtain ⟨c, v, hc, ⟨o, ho, hd⟩, rv⟩ := S7.cell x d hx3.1 (by rw [hkn]; exact hl'.2)
    refine ⟨hl'.1.1, hl'.1.2, c, v, hcl2 x c (mem_of_lookupN hl'.1.2) hc, ⟨o, hideAll_get _ (gh_get ho (S7.mt c (mem_cells (mem_of_lookup hc)))) fun m => ?_, hd⟩, ?_⟩
    · simp only [List.mem_cons, List.not_mem_nil, or_false] at m
      rw [m, of_gh hp7] at ho; cases ho; cases hd
    · rcases hx3.2.2 with ⟨f, rfl⟩ | ⟨a, rfl⟩ <;> exact rv
  have wr := i_inner (l := l) (B.up kb) (FO.up kb) M' hφ hn (mOf a n)
  have hphi : PhiOK (W.up (hideAll (gh s₇.heap) [l])) (8 + mOf a n) (fun _ _ => none) := fun f ds d h => nomatch h
  have sd := evs_sound (by (first | grind | omega)) (B.up kb) (FO.up kb) hphi 8
  have R7 : Rd env (gh s₇.heap) (jR2 a n (.lst ((List.replicate (mOf a n) (0 : Int)).map .int)) g) := fun y d hy => by
    by_cases hya : y = Str.ofString "a_digits"
    · subst hya
      obtain ⟨h1, v, h2, h3⟩ := S7.rd (Str.ofString "a_digits") (.fn l) (by kernel_rfl)
      obtain rfl : v = .ref l := h3
      have : d = .lst ((List.replicate (mOf a n) (0 : Int)).map .int) := by
        have e2 : (jR2 a n (.lst ((List.replicate (mOf a n) (0 : Int)).map .int)) g).lookup (Str.ofString "a_digits") = some (.lst ((List.replicate (mOf a n) (0 : Int)).map .int)) := by kernel_rfl
        rw [e2] at hy; cases hy; rfl
      subst this
      exact ⟨h1, _, h2, rl7⟩
    · refine S7.rd y d ?_
      have hm := mem_of_lookupG hy
      unfold jR2 jR1 jR0 at hm
      simp only [List.cons_append, List.nil_append, List.mem_cons, Prod.mk.injEq, List.not_mem_nil, or_false] at hm
      rcases hm with ⟨rfl, rfl⟩ | ⟨rfl, rfl⟩ | ⟨rfl, rfl⟩ | ⟨rfl, rfl⟩
      · kernel_rfl
      · kernel_rfl
      · exact absurd rfl hya
      · kernel_rfl
  have hzl : (List.replicate (mOf a n) (0 : Int)).length = mOf a n := List.length_replicate
  have st57 : Stp (muOf env none) s₅ s₇ := (Stp.of x₆).chain st₇ (fun b hb => .inl hb) S6.ti S5.al
  have st17 : Stp (muOf env none) s₁ s₇ := (Stp.of x14).chain (st₅.chain st57 (fun b hb => .inl hb) S5.ti S4.al) (fun b hb => .inl hb) S4.ti S1.al
  have fin : ∀ s₈, Stp [l] s₇ s₈ → LSt (W.up (hideAll (gh s₇.heap) [l])) l (digs n a (mOf a n)) s₈ → wpF W (A.deeper env) (exec (.Return (some (.Name (Str.ofString "a_digits") (poE (reE j3)))) (poS j3)) env) (fun f s' => ∃ v, f = .ret v ∧ Q v s') s₈ := fun s₈ st₈ T₈ => by
    obtain ⟨ws8, n8, h8, r8⟩ := T₈.get
    obtain ⟨h1, v, h2, h3⟩ := S7.rd (Str.ofString "a_digits") (.fn l) (by kernel_rfl)
    obtain rfl : v = .ref l := h3
    have rl8 : Rep (gh s₈.heap) (.ref l) (.lst ((digs n a (mOf a n)).map .int)) := ⟨l, ws8, n8, rfl, gh_get h8 T₈.nl, r8⟩
    have V8 : Var env (gh s₈.heap) (Str.ofString "a_digits") (.ref l) := by
      rcases h2 with ⟨h, _⟩ | ⟨hk, c, hc, o, ho, hd⟩
      · rw [hkn] at h; exact absurd h (by first | kernel_rfl | decide +kernel)
      · refine .inr ⟨hk, c, hc, o, st₈.x.kp c o (fun m => ?_) ho, hd⟩
        simp only [List.mem_cons, List.not_mem_nil, or_false] at m
        rw [m, hp7] at ho; cases ho; cases hd
    have R8 : Rd env (gh s₈.heap) [(Str.ofString "a_digits", .lst ((digs n a (mOf a n)).map .int))] := fun y d hy => by
      have hm := mem_of_lookupG hy
      simp only [List.mem_cons, Prod.mk.injEq, List.not_mem_nil, or_false] at hm
      obtain ⟨rfl, rfl⟩ := hm
      exact ⟨h1, _, V8, rl8⟩
    refine wpAny_Return_some (ev_name (W := W) (k := 8 + mOf a n) (d := .lst ((digs n a (mOf a n)).map .int)) (ρ := [(Str.ofString "a_digits", .lst ((digs n a (mOf a n)).map .int))]) (by kernel_rfl) _ s₈ _ rm' (T₈.ok.down kb) E R8 fun v' s₉ x₉ r₉ => ⟨v', rfl, ?_⟩)
    have c1 : SExt (muOf env none) s₁ s₈ := st17.x.chain st₈.x (fun b hb => .inr (by
      simp only [List.mem_cons, List.not_mem_nil, or_false] at hb; rw [hb]; exact l1)) T7.ti fun b hb => st17.all b (S1.al b hb)
    exact q v' s₉ ((x₁.mut S1.ti fr c1).trans x₉) r₉
  refine wp_false (wpAny_execs_cons (wpAny_If (sd.t (j_t _ a n g _) K _ s₇ _ rm' T7.ok E R7 fun s₈ x₈ => ?_)))
  have T8 := T7.ext x₈
  cases hz : ((a : Int) != 0) with
  | false =>
    simp only [Bool.false_eq_true, if_false]
    refine wpAny_execs_nil ?_
    have ha0 : a = 0 := by simpa using hz
    refine wp_false (wpAny_execs_cons (wpAny_mono (fin s₈ (.of x₈) ?_) (fun f s' h => ?_) fun _ _ f => f))
    · subst ha0
      rw [mOf_zero hn1] at T8 ⊢
      exact T8
    · obtain ⟨v, rfl, hq⟩ := h; exact hq
  | true =>
    simp only [if_true]
    have hpos : 0 < a := by
      have : ¬ a = 0 := by simpa using hz
      (first | grind | omega)
    have hmp : 0 < mOf a n := by
      rcases Nat.eq_zero_or_pos (mOf a n) with h | h
      · rw [h, Nat.mul_zero] at hm1
        have := bits_lt a
        rw [show Builtin.Int.intBits (a : Int) = 0 by (first | grind | omega)] at this
        (first | grind | omega)
      · exact h
    refine wpAny_execs_cons (wpAny_Expr ?_ (inter_fn E) rfl)
    obtain ⟨o, fd, ho, hd⟩ := made_has M'
    have R8 := R7.keeps x₈.kp'
    refine Call_Name rfl (ev_name (W := W.up (hideAll (gh s₇.heap) [l])) (k := 8 + mOf a n) (d := .fn g) (ρ := jR2 a n (.lst ((List.replicate (mOf a n) (0 : Int)).map .int)) g) (by kernel_rfl) _ s₈ _ rm' T8.ok E R8 fun v s₉ x₉ r₉ => ?_)
    obtain rfl : v = .ref g := r₉
    have ok₉ := T8.ok.ext x₉
    have hargs : EvTos (W.up (hideAll (gh s₇.heap) [l])) (8 + mOf a n) env (jR2 a n (.lst ((List.replicate (mOf a n) (0 : Int)).map .int)) g) [jA 0, jA 1, jA 2] [.int a, .int (0 : Nat), .int (mOf a n : Nat)] :=
      .cons (by kernel_rfl) (sd.e (j_a0 ..) K) (.cons (by kernel_rfl) (sd.e (j_a1 ..) K) (.cons (by kernel_rfl) (sd.e (by rw [j_a2, callB_len (by rw [List.length_map, hzl]; (first | grind | omega)), List.length_map, hzl]) K) .nil))
    refine callWith_function (o := o) (fd := fd) (ev_args hargs _ s₉ _ rm' ok₉ E (R8.keeps x₉.kp') fun vs s₁₀ x₁₀ r₁₀ => ⟨⟨(ok₉.ext x₁₀).all _ _ ho, hd⟩, ?_⟩)
    obtain ⟨w1, w2, w3, rfl, c1, c2, c3⟩ := reps3 r₁₀
    have x810 := x₈.trans (x₉.trans x₁₀)
    have hlt : a < 2 ^ (n * (mOf a n - 0)) := Nat.lt_of_lt_of_le (bits_lt a) (Nat.pow_le_pow_right (by decide) (by rw [Nat.sub_zero]; exact hm1))
    refine wr 0 (mOf a n) a (List.replicate (mOf a n) 0) hmp (by rw [hzl]; exact Nat.le_refl _) (by rw [hzl]; (first | grind | omega)) (by rw [hzl, Nat.mul_succ]; (first | grind | omega)) (by (first | grind | omega)) hlt ha _ s₁₀ w1 w2 w3 _ rm' (T7.ext x810) c1 c2 c3 fun s' st T' => ?_
    rw [Nat.sub_zero, put_all (by rw [hzl, digs_len])] at T'
    refine wpAny_execs_nil ?_
    have st' : Stp [l] s₇ s' := (Stp.of x810).chain st (fun b hb => .inl hb) (T7.ext x810).ti T7.alive
    refine wp_false (wpAny_execs_cons (wpAny_mono (fin s' st' T') (fun f s' h => ?_) fun _ _ f => f))
    obtain ⟨v, rfl, hq⟩ := h; exact hq
end
end Mine
end
section
open PySem PySem.W PySem.Calls PyProof.Rows PySem.Spec PySem.SeqAt PySem.SeqRoads2 PySem.MeetsSeq
set_option Elab.async false
set_option maxRecDepth 100000
set_option linter.unusedVariables false
namespace Mine
noncomputable def k0 : Stmt := stN (bodyAt 35) 0
theorem k_eq : bodyAt 35 = .If (ifT k0) [.Return (some (reE (stN (ifB k0) 0))) (poS (stN (ifB k0) 0))] [] (poS k0) :: (bodyAt 35).tail := by kernel_rfl
noncomputable def kR (a b : Int) (n : Nat) : Rho := [(Str.ofString "a", .int a), (Str.ofString "b", .int b), (Str.ofString "n", .int n)]
section
variable (phi : Addr → List D → Option D) (a b : Int) (n : Nat)
theorem k_t : (evs phi 8).t (namesAt 35) (kR a b n) (ifT k0) = cmpI .LtE (Builtin.Int.intBits a - n) 4000 := by kernel_rfl
theorem k_e : (evs phi 8).e (namesAt 35) (kR a b n) (reE (stN (ifB k0) 0)) = callB "divmod" [.int a, .int b] := by kernel_rfl
end
section
variable {W : Wd} {k : Nat} {P : Params}
theorem divmod_eq {a b : Int} (h : b ≠ 0) (hb : small b = true) : callB "divmod" [.int a, .int b] = some (.tup [.int (a.fdiv b), .int (a.fmod b)]) := by
  show (if (true && b != 0 && small b) = true then some (D.tup [.int (a.fdiv b), .int (a.fmod b)]) else none) = _
  rw [hb]
  simp [h]
theorem d2n {a b : Int} {n : Nat} (h8 : 8 ≤ k) (X : (hd.heap_39 P).In W.base) (B : BaseOK W) (FO : FlagsOK W) (hb0 : 1 ≤ b) (hb : b ≤ 1000) (ha : Builtin.Int.intBits a ≤ 4000) : CallOK W (k + 1) 35 [.int a, .int b, .int n] (.tup [.int (a.fdiv b), .int (a.fmod b)]) := by
  have hphi : PhiOK W k (fun _ _ => none) := fun f ds d h => nomatch h
  have sd := evs_sound h8 B FO hphi 8
  refine fn_call B (fn35 X) (by first | kernel_rfl | decide +kernel) rfl rfl (st' := (kR a b n, none)) ?_
  rw [k_eq]
  refine ex_stop (fun e => nomatch e) (ex_if (c := true) (fun env F => sd.t (ρ := kR a b n) (by rw [k_t]; unfold cmpI; simp; (first | grind | omega)) (kindF F)) ?_)
  exact ex_stop (fun e => nomatch e) (ex_return fun env F => sd.e (ρ := kR a b n) (by rw [k_e]; exact divmod_eq (by (first | grind | omega)) (small_of (by (first | grind | omega)) (by (first | grind | omega)))) (kindF F))
end
end Mine
end
section
open PySem PySem.W PySem.Calls PyProof.Rows PySem.Spec PySem.SeqAt PySem.SeqRoads2 PySem.MeetsSeq
set_option Elab.async false
set_option maxRecDepth 100000
set_option linter.unusedVariables false
namespace Mine
/-- the long division, highest digit first -/
noncomputable def dstep (b : Int) (n : Nat) : Int → List Int → Int × List Int
  | r, [] => (r, [])
  | r, d :: ds => let p := dstep b n ((r * 2 ^ n + d).fmod b) ds; (p.1, (r * 2 ^ n + d).fdiv b :: p.2)
theorem dstep_ok {b : Int} {n : Nat} (hb : 1 ≤ b) (hbn : b ≤ 2 ^ n) : ∀ (ds : List Int) (r : Int), 0 ≤ r → r < b → (∀ d ∈ ds, 0 ≤ d ∧ d < 2 ^ n) →
    0 ≤ (dstep b n r ds).1 ∧ (dstep b n r ds).1 < b ∧ (dstep b n r ds).2.length = ds.length ∧ (∀ q ∈ (dstep b n r ds).2, 0 ≤ q ∧ q < 2 ^ n) ∧
    r * 2 ^ (n * ds.length) + dval n ds.reverse = b * dval n (dstep b n r ds).2.reverse + (dstep b n r ds).1
  | [], r, h0, h1, _ => by simp [dstep, dval, h0, h1]
  | d :: ds, r, h0, h1, hd => by
    obtain ⟨hd0, hd1⟩ := hd d (.head _)
    have hp : (0 : Int) < 2 ^ n := Int.pow_pos (by decide)
    have hx0 : 0 ≤ r * 2 ^ n + d := Int.add_nonneg (Int.mul_nonneg h0 (Int.le_of_lt hp)) hd0
    have hx1 : r * 2 ^ n + d < b * 2 ^ n := by
      have : (r + 1) * 2 ^ n ≤ b * 2 ^ n := Int.mul_le_mul_of_nonneg_right (by (first | grind | omega)) (Int.le_of_lt hp)
      rw [Int.add_mul, Int.one_mul] at this
      (first | grind | omega)
    have e := Int.mul_fdiv_add_fmod (r * 2 ^ n + d) b
    have m0 : 0 ≤ (r * 2 ^ n + d).fmod b := Int.fmod_nonneg_of_pos _ (by (first | grind | omega))
    have m1 : (r * 2 ^ n + d).fmod b < b := Int.fmod_lt_of_pos _ (by (first | grind | omega))
    have q0 : 0 ≤ (r * 2 ^ n + d).fdiv b := Int.fdiv_nonneg hx0 (by (first | grind | omega))
    have q1 : (r * 2 ^ n + d).fdiv b < 2 ^ n := by
      rw [Int.fdiv_eq_ediv_of_nonneg _ (by (first | grind | omega))]
      exact Int.ediv_lt_of_lt_mul (by (first | grind | omega)) (by rw [Int.mul_comm (2 ^ n) b]; exact hx1)
    obtain ⟨i1, i2, i3, i4, i5⟩ := dstep_ok hb hbn ds _ m0 m1 fun x hx => hd x (.tail _ hx)
    simp only [dstep]
    generalize (r * 2 ^ n + d).fdiv b = q at *
    generalize (r * 2 ^ n + d).fmod b = r1 at *
    refine ⟨i1, i2, by simp [i3], fun x hx => ?_, ?_⟩
    · rcases List.mem_cons.mp hx with rfl | hx
      · exact ⟨q0, q1⟩
      · exact i4 x hx
    · rw [List.reverse_cons, List.reverse_cons, dval_append, dval_append, List.length_reverse, List.length_reverse, i3]
      simp only [dval, Int.mul_zero, Int.add_zero, List.length_cons]
      rw [Nat.mul_succ, Int.pow_add]
      have e2 : r * (2 ^ (n * ds.length) * 2 ^ n) + (dval n ds.reverse + 2 ^ (n * ds.length) * d) = (r * 2 ^ n + d) * 2 ^ (n * ds.length) + dval n ds.reverse := by
        rw [Int.add_mul, Int.mul_comm (2 ^ (n * ds.length)) d, Int.mul_comm (2 ^ (n * ds.length)) (2 ^ n), ← Int.mul_assoc]
        (first | grind | omega)
      rw [e2, ← e, Int.add_mul, Int.mul_add]
      rw [Int.mul_comm (2 ^ (n * ds.length)) q, ← Int.mul_assoc]
      (first | grind | omega)
end Mine
end
section
open PySem PySem.W PySem.Calls PyProof.Rows PySem.Spec PySem.SeqAt PySem.SeqRoads2 PySem.MeetsSeq
set_option Elab.async false
set_option maxRecDepth 100000
set_option linter.unusedVariables false
namespace Mine
noncomputable def foI (s : Stmt) : Expr := stX s 0
noncomputable def foB (s : Stmt) : List Stmt := (stV s).2.1
noncomputable def foT (s : Stmt) : Expr := stX s 1
noncomputable def foP (s : Stmt) : Pos := poS s
noncomputable def tuE (e : Expr) : List Expr := (exV e).1
noncomputable def tuK (e : Expr) : Nat := (exV e).2.1
noncomputable def tuP (e : Expr) : Pos := poE e
noncomputable def atO (e : Expr) : Expr := exN e 0
noncomputable def atP (e : Expr) : Pos := poE e
noncomputable def pS (i : Nat) : Stmt := stN (bodyAt 63) i
noncomputable def pB (i : Nat) : Stmt := stN (foB (pS 4)) i
noncomputable def pA (e : Expr) (i : Nat) : Expr := (caA e).getD i xE
noncomputable def pCall (x : Str) (e : Expr) (as : List Expr) : Expr := .Call (.Name x (poE (caF e))) as [] (poE e)
noncomputable def pMeth (x m : Str) (e : Expr) (as : List Expr) : Expr := .Call (.Attribute (.Name x (poE (atO (caF e)))) m (atP (caF e))) as [] (poE e)
theorem p_eq : bodyAt 63 = [.Assign [.Name (Str.ofString "n") (poE (asT (pS 0)))] (asE (pS 0)) (poS (pS 0)),
  .Assign [.Name (Str.ofString "a_digits") (poE (asT (pS 1)))] (pCall (Str.ofString "_int2digits") (asE (pS 1)) [pA (asE (pS 1)) 0, pA (asE (pS 1)) 1]) (poS (pS 1)),
  .Assign [.Name (Str.ofString "r") (poE (asT (pS 2)))] (asE (pS 2)) (poS (pS 2)),
  .Assign [.Name (Str.ofString "q_digits") (poE (asT (pS 3)))] (.List [] (tuP (asE (pS 3)))) (poS (pS 3)),
  .For (.Name (Str.ofString "a_digit") (poE (foT (pS 4)))) (foI (pS 4)) (foB (pS 4)) [] (foP (pS 4)),
  .Expr (pMeth (Str.ofString "q_digits") (Str.ofString "reverse") (exE (pS 5)) []) (poS (pS 5)),
  .Assign [.Name (Str.ofString "q") (poE (asT (pS 6)))] (pCall (Str.ofString "_digits2int") (asE (pS 6)) [pA (asE (pS 6)) 0, pA (asE (pS 6)) 1]) (poS (pS 6)),
  .Return (some (reE (pS 7))) (poS (pS 7))] := by kernel_rfl
theorem pB_eq : foB (pS 4) = [.Assign [.Tuple (tuE (asT (pB 0))) (tuK (asT (pB 0))) (tuP (asT (pB 0)))] (pCall (Str.ofString "_div2n1n") (asE (pB 0)) [pA (asE (pB 0)) 0, pA (asE (pB 0)) 1, pA (asE (pB 0)) 2]) (poS (pB 0)),
  .Expr (pMeth (Str.ofString "q_digits") (Str.ofString "append") (exE (pB 1)) [pA (exE (pB 1)) 0]) (poS (pB 1))] := by kernel_rfl
noncomputable def r0 (a b : Int) : Rho := [(Str.ofString "a", .int a), (Str.ofString "b", .int b)]
noncomputable def r1 (a b : Int) (n : Nat) : Rho := r0 a b ++ [(Str.ofString "n", .int n)]
noncomputable def r2 (a b : Int) (n : Nat) (as : List At) : Rho := r1 a b n ++ [(Str.ofString "a_digits", .lst as)]
noncomputable def r3 (a b : Int) (n : Nat) (as : List At) (r : Int) : Rho := r2 a b n as ++ [(Str.ofString "r", .int r)]
noncomputable def r4 (a b : Int) (n : Nat) (as : List At) (r d : Int) : Rho := r3 a b n as r ++ [(Str.ofString "a_digit", .int d)]
noncomputable def r5 (a b : Int) (n : Nat) (as : List At) (r d q : Int) : Rho := r4 a b n as r d ++ [(Str.ofString "q_digit", .int q)]
section
variable (phi : Addr → List D → Option D) (a b : Int) (n : Nat) (as : List At) (r d q : Int) (qs : D)
theorem p_0 : (evs phi 8).e (namesAt 63) (r0 a b) (asE (pS 0)) = some (.int (Builtin.Int.intBits b : Nat)) := by kernel_rfl
theorem p_10 : (evs phi 8).e (namesAt 63) (r1 a b n) (pA (asE (pS 1)) 0) = some (.int a) := by kernel_rfl
theorem p_11 : (evs phi 8).e (namesAt 63) (r1 a b n) (pA (asE (pS 1)) 1) = some (.int n) := by kernel_rfl
theorem p_2 : (evs phi 8).e (namesAt 63) (r2 a b n as) (asE (pS 2)) = some (.int 0) := by kernel_rfl
theorem p_it : iterD (evs phi 8) (namesAt 63) (r3 a b n as r) (foI (pS 4)) = some as.reverse := by kernel_rfl
theorem p_b0 : (evs phi 8).e (namesAt 63) (r4 a b n as r d) (pA (asE (pB 0)) 0) = bin2 .Add (binI .LShift r n) (some (.int d)) := by kernel_rfl
theorem p_b1 : (evs phi 8).e (namesAt 63) (r4 a b n as r d) (pA (asE (pB 0)) 1) = some (.int b) := by kernel_rfl
theorem p_b2 : (evs phi 8).e (namesAt 63) (r4 a b n as r d) (pA (asE (pB 0)) 2) = some (.int n) := by kernel_rfl
theorem p_c0 : (evs phi 8).e (namesAt 63) (r5 a b n as r d q) (pA (asE (pB 0)) 0) = bin2 .Add (binI .LShift r n) (some (.int d)) := by kernel_rfl
theorem p_c1 : (evs phi 8).e (namesAt 63) (r5 a b n as r d q) (pA (asE (pB 0)) 1) = some (.int b) := by kernel_rfl
theorem p_c2 : (evs phi 8).e (namesAt 63) (r5 a b n as r d q) (pA (asE (pB 0)) 2) = some (.int n) := by kernel_rfl
theorem p_d : (evs phi 8).e (namesAt 63) (r5 a b n as r d q) (pA (exE (pB 1)) 0) = some (.int q) := by kernel_rfl
noncomputable def r3q (a b : Int) (n : Nat) (as : List At) (r : Int) (qs : D) : Rho := r3 a b n as r ++ [(Str.ofString "q_digits", qs)]
noncomputable def r5q (a b : Int) (n : Nat) (as : List At) (r d q : Int) (qs : D) : Rho := r5 a b n as r d q ++ [(Str.ofString "q_digits", qs)]
theorem p_60 : (evs phi 8).e (namesAt 63) (r3q a b n as r qs) (pA (asE (pS 6)) 0) = some qs := by kernel_rfl
theorem p_61 : (evs phi 8).e (namesAt 63) (r3q a b n as r qs) (pA (asE (pS 6)) 1) = some (.int n) := by kernel_rfl
theorem p_7 : (evs phi 8).e (namesAt 63) (r3q a b n as r qs ++ [(Str.ofString "q", .int q)]) (reE (pS 7)) = some (.tup [.int q, .int r]) := by kernel_rfl
theorem p_e0 : (evs phi 8).e (namesAt 63) (r5q a b n as r d q qs) (pA (asE (pS 6)) 0) = some qs := by kernel_rfl
theorem p_e1 : (evs phi 8).e (namesAt 63) (r5q a b n as r d q qs) (pA (asE (pS 6)) 1) = some (.int n) := by kernel_rfl
theorem p_e7 (v : Int) : (evs phi 8).e (namesAt 63) (r5q a b n as r d q qs ++ [(Str.ofString "q", .int v)]) (reE (pS 7)) = some (.tup [.int v, .int r]) := by kernel_rfl
end
end Mine
end
section
open PySem PySem.W PySem.Calls PyProof.Rows PySem.Spec PySem.SeqAt PySem.SeqRoads2 PySem.MeetsSeq
set_option Elab.async false
set_option maxRecDepth 100000
set_option linter.unusedVariables false
namespace Mine
section
variable {W : Wd} {k : Nat} {P : Params}
theorem kg {env : Env} (F : FEnv (namesAt 63) env) (x : Str) (h : (namesAt 63).lookup x = some .globalImplicit) : env.kindOf x = some .globalImplicit := (kindF F x).1 h
theorem bits_small2 {x : Int} (h0 : 0 ≤ x) (h : x < 2 ^ 40) : Builtin.Int.intBits x ≤ 4000 := by
  have e : x = ((x.toNat : Nat) : Int) := by (first | grind | omega)
  rw [e]
  exact Nat.le_trans (bits_le (by (first | grind | omega))) (by decide)
/-- one turn of the loop -/
theorem p_turn {b : Int} {n : Nat} {r d : Int} {ρ : Rho} {ρ' : Rho} {items : List At} (h8 : 8 ≤ k) (X : (hd.heap_39 P).In W.base) (B : BaseOK W) (FO : FlagsOK W) (hb0 : 1 ≤ b) (hb : b ≤ 1000) (hn : n ≤ 10) (hr0 : 0 ≤ r) (hr : r < b) (hd0 : 0 ≤ d) (hd1 : d < 2 ^ n) (hl : items.length ≤ 100000)
    (e0 : (evs (fun _ _ => none) 8).e (namesAt 63) ρ (pA (asE (pB 0)) 0) = bin2 .Add (binI .LShift r n) (some (.int d))) (e1 : (evs (fun _ _ => none) 8).e (namesAt 63) ρ (pA (asE (pB 0)) 1) = some (.int b)) (e2 : (evs (fun _ _ => none) 8).e (namesAt 63) ρ (pA (asE (pB 0)) 2) = some (.int n))
    (hρ : setAll ρ [Str.ofString "q_digit", Str.ofString "r"] [.int ((r * 2 ^ n + d).fdiv b), .int ((r * 2 ^ n + d).fmod b)] = ρ')
    (e3 : (evs (fun _ _ => none) 8).e (namesAt 63) ρ' (pA (exE (pB 1)) 0) = some (.int ((r * 2 ^ n + d).fdiv b))) :
    ExL W (k + 1) (namesAt 63) (foB (pS 4)) (ρ, some (Str.ofString "q_digits", items)) (ρ', some (Str.ofString "q_digits", items ++ [.int ((r * 2 ^ n + d).fdiv b)])) .next := by
  have hphi : PhiOK W (k + 1) (fun _ _ => none) := fun f ds d h => nomatch h
  have sd := evs_sound (by (first | grind | omega)) B FO hphi 8
  have hp : (2 : Int) ^ n ≤ 2 ^ 10 := by exact_mod_cast Nat.pow_le_pow_right (by decide) hn
  have hp0 : (0 : Int) < 2 ^ n := Int.pow_pos (by decide)
  have hx0 : 0 ≤ r * 2 ^ n := Int.mul_nonneg hr0 (Int.le_of_lt hp0)
  have hx1 : r * 2 ^ n ≤ 1000 * 2 ^ 10 := Int.mul_le_mul (by (first | grind | omega)) hp (Int.le_of_lt hp0) (by decide)
  have e0' : (evs (fun _ _ => none) 8).e (namesAt 63) ρ (pA (asE (pB 0)) 0) = some (.int (r * 2 ^ n + d)) := by
    rw [e0]
    have hs : small r = true := small_of hr0 (by (first | grind | omega))
    have : binI .LShift r n = some (.int (r * 2 ^ n)) := by
      unfold binI
      simp only [hs, Bool.true_and]
      rw [if_pos (by simp only [Bool.and_eq_true, decide_eq_true_eq]; (first | grind | omega)), Int.toNat_natCast]
    rw [this]; rfl
  rw [pB_eq]
  refine ex_cons (st₁ := (ρ', some (Str.ofString "q_digits", items))) ?_ (ex_cons (ex_append (fun env F => sd.e e3 (kindF F)) (by kernel_rfl) (by kernel_rfl) hl) ex_nil)
  have := ex_tuple (W := W) (k := k + 1) (names := namesAt 63) (ts := tuE (asT (pB 0))) (xs := [Str.ofString "q_digit", Str.ofString "r"]) (k1 := tuK (asT (pB 0))) (p1 := tuP (asT (pB 0))) (pos := poS (pB 0)) (e := pCall (Str.ofString "_div2n1n") (asE (pB 0)) [pA (asE (pB 0)) 0, pA (asE (pB 0)) 1, pA (asE (pB 0)) 2]) (ρ := ρ) (od := some (Str.ofString "q_digits", items))
    (d := .tup [.int ((r * 2 ^ n + d).fdiv b), .int ((r * 2 ^ n + d).fmod b)]) (as := [.int ((r * 2 ^ n + d).fdiv b), .int ((r * 2 ^ n + d).fmod b)]) (by kernel_rfl)
    (fun env F => ev_callF B (kg F _ (by first | kernel_rfl | decide +kernel)) (show GL.lookup (Str.ofString "_div2n1n") = some (.fn 35) from by first | kernel_rfl | decide +kernel) (.cons (by kernel_rfl) (sd.e e0' (kindF F)) (.cons (by kernel_rfl) (sd.e e1 (kindF F)) (.cons (by kernel_rfl) (sd.e e2 (kindF F)) .nil)))
      (d2n h8 X B FO hb0 hb (bits_small2 (by (first | grind | omega)) (by (first | grind | omega))))) rfl rfl (fun x hx => by
        have : [Str.ofString "q_digit", Str.ofString "r"].all (fun x => okStore (namesAt 63) (some (Str.ofString "q_digits")) x) = true := by first | kernel_rfl | decide +kernel
        exact List.all_eq_true.mp this x hx) (fun env F => swapped_none (by kernel_rfl))
  rw [hρ] at this
  exact this
end
end Mine
end
section
open PySem PySem.W PySem.Calls PyProof.Rows PySem.Spec PySem.SeqAt PySem.SeqRoads2 PySem.MeetsSeq
set_option Elab.async false
set_option maxRecDepth 100000
set_option linter.unusedVariables false
namespace Mine
section
variable {W : Wd} {k : Nat} {P : Params}
theorem ad_ok : okStore (namesAt 63) (some (Str.ofString "q_digits")) (Str.ofString "a_digit") = true := by first | kernel_rfl | decide +kernel
theorem p_loop {a b : Int} {n : Nat} {as : List At} (h8 : 8 ≤ k) (X : (hd.heap_39 P).In W.base) (B : BaseOK W) (FO : FlagsOK W) (hb0 : 1 ≤ b) (hb : b ≤ 1000) (hn : n ≤ 10) (hbn : b ≤ 2 ^ n) : ∀ (ds : List Int) (items : List Int) (r d q : Int), 0 ≤ r → r < b → (∀ x ∈ ds, 0 ≤ x ∧ x < 2 ^ n) → items.length + ds.length ≤ 1000 →
    ∃ d' q', Loop W (k + 1) (namesAt 63) (Str.ofString "a_digit") (foB (pS 4)) [] (ds.map .int) (r5 a b n as r d q, some (Str.ofString "q_digits", items.map .int)) (r5 a b n as (dstep b n r ds).1 d' q', some (Str.ofString "q_digits", (items ++ (dstep b n r ds).2).map .int)) .next
  | [], items, r, d, q, h0, h1, _, _ => ⟨d, q, by simp only [dstep, List.append_nil]; exact .done ex_nil⟩
  | x :: ds, items, r, d, q, h0, h1, hd, hl => by
    obtain ⟨hx0, hx1⟩ := hd x (.head _)
    simp only [List.length_cons] at hl
    have m0 : 0 ≤ (r * 2 ^ n + x).fmod b := Int.fmod_nonneg_of_pos _ (by (first | grind | omega))
    have m1 : (r * 2 ^ n + x).fmod b < b := Int.fmod_lt_of_pos _ (by (first | grind | omega))
    obtain ⟨d', q', ih⟩ := p_loop h8 X B FO hb0 hb hn hbn ds (items ++ [(r * 2 ^ n + x).fdiv b]) ((r * 2 ^ n + x).fmod b) x ((r * 2 ^ n + x).fdiv b) m0 m1 (fun y hy => hd y (.tail _ hy)) (by simp only [List.length_append, List.length_cons, List.length_nil]; (first | grind | omega))
    refine ⟨d', q', .turn ad_ok (st₁ := (r5 a b n as ((r * 2 ^ n + x).fmod b) x ((r * 2 ^ n + x).fdiv b), some (Str.ofString "q_digits", items.map .int ++ [.int ((r * 2 ^ n + x).fdiv b)]))) ?_ ?_⟩
    · have hs : setR (r5 a b n as r d q) (Str.ofString "a_digit") (.at (.int x)) = r5 a b n as r x q := by kernel_rfl
      rw [hs]
      exact p_turn h8 X B FO hb0 hb hn h0 h1 hx0 hx1 (by rw [List.length_map]; (first | grind | omega)) (p_c0 ..) (p_c1 ..) (p_c2 ..) (by kernel_rfl) (p_d ..)
    · simp only [dstep]
      rw [List.map_append, List.append_assoc] at ih
      simpa using ih
theorem intBits_pos {b : Nat} (h : 1 ≤ b) (h2 : b ≤ 1000) : 1 ≤ Builtin.Int.intBits (b : Int) ∧ Builtin.Int.intBits (b : Int) ≤ 10 ∧ b ≤ 2 ^ Builtin.Int.intBits (b : Int) := by
  have h3 := bits_lt b
  refine ⟨?_, ?_, Nat.le_of_lt h3⟩
  · rcases Nat.eq_zero_or_pos (Builtin.Int.intBits (b : Int)) with h | h
    · rw [h] at h3; (first | grind | omega)
    · exact h
  · unfold Builtin.Int.intBits
    split
    · (first | grind | omega)
    · rw [Int.natAbs_natCast]
      have := (Nat.log2_lt (by (first | grind | omega) : b ≠ 0)).mpr (show b < 2 ^ 10 by (first | grind | omega))
      (first | grind | omega)
end
end Mine
end
section
open PySem PySem.W PySem.Calls PyProof.Rows PySem.Spec PySem.SeqAt PySem.SeqRoads2 PySem.MeetsSeq
set_option Elab.async false
set_option maxRecDepth 100000
set_option linter.unusedVariables false
namespace Mine
section
variable {W : Wd} {P : Params}
theorem p_tail {ρf ρz ρw : Rho} {n : Nat} {r : Int} {items : List Int} (X : (hd.heap_39 P).In W.base) (B : BaseOK W) (FO : FlagsOK W) (N : NestOK W) (hn : n ≤ 10) (hlen : n * (items.length + 1) ≤ 120) (hlen2 : items.length ≤ 71) (hds : ∀ d ∈ items, 0 ≤ d ∧ d < 2 ^ n)
    (hz : setR ρf (Str.ofString "q_digits") (.lst (items.reverse.map .int)) = ρz) (e0 : (evs (fun _ _ => none) 8).e (namesAt 63) ρz (pA (asE (pS 6)) 0) = some (.lst (items.reverse.map .int))) (e1 : (evs (fun _ _ => none) 8).e (namesAt 63) ρz (pA (asE (pS 6)) 1) = some (.int n))
    (hw : setR ρz (Str.ofString "q") (.int (dval n items.reverse)) = ρw) (e7 : (evs (fun _ _ => none) 8).e (namesAt 63) ρw (reE (pS 7)) = some (.tup [.int (dval n items.reverse), .int r])) :
    ExL W 80 (namesAt 63) [.Expr (pMeth (Str.ofString "q_digits") (Str.ofString "reverse") (exE (pS 5)) []) (poS (pS 5)),
      .Assign [.Name (Str.ofString "q") (poE (asT (pS 6)))] (pCall (Str.ofString "_digits2int") (asE (pS 6)) [pA (asE (pS 6)) 0, pA (asE (pS 6)) 1]) (poS (pS 6)), .Return (some (reE (pS 7))) (poS (pS 7))]
      (ρf, some (Str.ofString "q_digits", items.map .int)) (ρw, none) (.ret (.tup [.int (dval n items.reverse), .int r])) := by
  have hphi : PhiOK W 80 (fun _ _ => none) := fun f ds d h => nomatch h
  have sd := evs_sound (by (first | grind | omega)) B FO hphi 8
  refine ex_cons (ex_reverse (by kernel_rfl) (by rw [List.length_map]; (first | grind | omega))) (ex_cons (st₁ := (ρw, none)) (ex_freeze ?_) (ex_stop (fun e => nomatch e) (ex_return fun env F => sd.e e7 (kindF F))))
  have hf : frozen (ρf, some (Str.ofString "q_digits", (items.map At.int).reverse)) = (ρz, none) := by
    rw [← hz, ← List.map_reverse]; rfl
  rw [hf]
  have := ex_assign (W := W) (k := 80) (names := namesAt 63) (x := Str.ofString "q") (px := poE (asT (pS 6))) (pos := poS (pS 6)) (e := pCall (Str.ofString "_digits2int") (asE (pS 6)) [pA (asE (pS 6)) 0, pA (asE (pS 6)) 1]) (ρ := ρz) (od := none) (d := .int (dval n items.reverse))
    (fun env F => ev_callF B (kg F _ (by first | kernel_rfl | decide +kernel)) (show GL.lookup (Str.ofString "_digits2int") = some (.fn 56) from by first | kernel_rfl | decide +kernel) (.cons (by kernel_rfl) (sd.e e0 (kindF F)) (.cons (by kernel_rfl) (sd.e e1 (kindF F)) .nil))
      ((d2i X B FO N hn (by rw [List.length_reverse]; exact hlen) (by rw [List.length_reverse]; (first | grind | omega)) (fun d hd => hds d (List.mem_reverse.mp hd))).mono (by rw [List.length_reverse]; (first | grind | omega))))
    (fun env F => swaps_plain (by kernel_rfl)) (by first | kernel_rfl | decide +kernel) rfl (.inl rfl)
  rw [show (setR ρz (Str.ofString "q") (.int (dval n items.reverse))) = ρw from hw] at this
  exact this
theorem dpos {a b : Nat} (X : (hd.heap_39 P).In W.base) (B : BaseOK W) (FO : FlagsOK W) (N : NestOK W) (ha : a < 2 ^ 62) (hb0 : 1 ≤ b) (hb : b ≤ 1000) : CallOK W 81 63 [.int a, .int b] (.tup [.int ((a / b : Nat) : Int), .int ((a % b : Nat) : Int)]) := by
  have hphi : PhiOK W 80 (fun _ _ => none) := fun f ds d h => nomatch h
  have sd := evs_sound (by (first | grind | omega)) B FO hphi 8
  obtain ⟨hn1, hn, hbn⟩ := intBits_pos hb0 hb
  have p0 := p_0 (fun _ _ => none) a b
  generalize Builtin.Int.intBits (b : Int) = n at hn1 hn hbn p0
  have hbn' : (b : Int) ≤ 2 ^ n := by exact_mod_cast hbn
  obtain ⟨hm1, hm2⟩ := mOf_le (a := a) hn1
  have hbits := bits_le ha
  have hmle : mOf a n ≤ 71 := Nat.le_trans (Nat.le_mul_of_pos_left _ hn1) (by (first | grind | omega))
  have hi := (i2d X B FO N hn1 hn ha).mono (show 9 + mOf a n ≤ 80 by (first | grind | omega))
  have hdl := digs_len n a (mOf a n)
  have hdb := digs_bound n (mOf a n) a
  have hdv : dval n (digs n a (mOf a n)) = (a : Int) := by
    rw [digs_val, Nat.mod_eq_of_lt (Nat.lt_of_lt_of_le (bits_lt a) (Nat.pow_le_pow_right (by decide) hm1))]
  generalize digs n a (mOf a n) = ds at hdl hdb hdv hi
  have hlen : n * (ds.length + 1) ≤ 120 := by rw [hdl, Nat.mul_succ]; (first | grind | omega)
  obtain ⟨f1, f2, f3, f4, f5⟩ := dstep_ok (b := b) (n := n) (by (first | grind | omega)) hbn' ds.reverse 0 (by (first | grind | omega)) (by (first | grind | omega)) fun d hd => hdb d (List.mem_reverse.mp hd)
  rw [List.reverse_reverse, hdv, Int.zero_mul, Int.zero_add] at f5
  rw [List.length_reverse] at f3
  have hQ := dval_bound n (dstep b n 0 ds.reverse).2.reverse fun d hd => f4 d (List.mem_reverse.mp hd)
  have key : dval n (dstep b n 0 ds.reverse).2.reverse = ((a / b : Nat) : Int) ∧ (dstep b n 0 ds.reverse).1 = ((a % b : Nat) : Int) := by
    generalize (dstep b n 0 ds.reverse).1 = r at f1 f2 f5
    generalize dval n (dstep b n 0 ds.reverse).2.reverse = q at hQ f5
    obtain ⟨rn, rfl⟩ := Int.eq_ofNat_of_zero_le f1
    obtain ⟨qn, rfl⟩ := Int.eq_ofNat_of_zero_le hQ.1
    have h1 : a = b * qn + rn := by exact_mod_cast f5
    have h2 : rn < b := by exact_mod_cast f2
    subst h1
    constructor
    · rw [Nat.mul_add_div (by (first | grind | omega)), Nat.div_eq_of_lt h2]; simp
    · rw [Nat.mul_add_mod, Nat.mod_eq_of_lt h2]
  have hloop : ∃ ρf ρw, Loop W (79 + 1) (namesAt 63) (Str.ofString "a_digit") (foB (pS 4)) [] ((ds.map At.int).reverse) (r3 a b n (ds.map .int) 0, some (Str.ofString "q_digits", [])) (ρf, some (Str.ofString "q_digits", (dstep b n 0 ds.reverse).2.map .int)) .next ∧
      ExL W 80 (namesAt 63) [.Expr (pMeth (Str.ofString "q_digits") (Str.ofString "reverse") (exE (pS 5)) []) (poS (pS 5)),
      .Assign [.Name (Str.ofString "q") (poE (asT (pS 6)))] (pCall (Str.ofString "_digits2int") (asE (pS 6)) [pA (asE (pS 6)) 0, pA (asE (pS 6)) 1]) (poS (pS 6)), .Return (some (reE (pS 7))) (poS (pS 7))]
      (ρf, some (Str.ofString "q_digits", (dstep b n 0 ds.reverse).2.map .int)) (ρw, none) (.ret (.tup [.int (dval n (dstep b n 0 ds.reverse).2.reverse), .int (dstep b n 0 ds.reverse).1])) := by
    rw [← List.map_reverse]
    cases hr : ds.reverse with
    | nil =>
      refine ⟨r3 a b n (ds.map .int) 0, r3q a b n (ds.map .int) 0 (.lst []) ++ [(Str.ofString "q", .int 0)], .done ex_nil, ?_⟩
      exact p_tail (items := []) (ρz := r3q a b n (ds.map .int) 0 (.lst [])) X B FO N hn (by simp; (first | grind | omega)) (by simp) (fun d hd => nomatch hd) (by kernel_rfl) (p_60 ..) (p_61 ..) (by kernel_rfl) (p_7 ..)
    | cons x rest =>
      rw [hr] at f1 f2 f3 f4
      have hxm : ∀ y ∈ x :: rest, 0 ≤ y ∧ y < 2 ^ n := fun y hy => hdb y (List.mem_reverse.mp (by rw [hr]; exact hy))
      obtain ⟨hx0, hx1⟩ := hxm x (.head _)
      have hrl : rest.length + 1 = ds.length := by rw [← List.length_reverse (as := ds), hr]; rfl
      obtain ⟨d', q', hl⟩ := p_loop (W := W) (P := P) (k := 79) (a := a) (as := ds.map .int) (by (first | grind | omega)) X B FO (by (first | grind | omega)) (by (first | grind | omega)) hn hbn' rest [((0 : Int) * 2 ^ n + x).fdiv b] (((0 : Int) * 2 ^ n + x).fmod b) x (((0 : Int) * 2 ^ n + x).fdiv b) (Int.fmod_nonneg_of_pos _ (by (first | grind | omega))) (Int.fmod_lt_of_pos _ (by (first | grind | omega))) (fun y hy => hxm y (.tail _ hy)) (by simp; (first | grind | omega))
      refine ⟨_, r5q a b n (ds.map .int) (dstep b n 0 (x :: rest)).1 d' q' (.lst ((dstep b n 0 (x :: rest)).2.reverse.map .int)) ++ [(Str.ofString "q", .int (dval n (dstep b n 0 (x :: rest)).2.reverse))], .turn ad_ok (st₁ := (r5 a b n (ds.map .int) (((0 : Int) * 2 ^ n + x).fmod b) x (((0 : Int) * 2 ^ n + x).fdiv b), some (Str.ofString "q_digits", [] ++ [.int (((0 : Int) * 2 ^ n + x).fdiv b)]))) ?_ hl, ?_⟩
      · have hs : setR (r3 a b n (ds.map .int) 0) (Str.ofString "a_digit") (.at (.int x)) = r4 a b n (ds.map .int) 0 x := by kernel_rfl
        rw [hs]
        exact p_turn (k := 79) (by (first | grind | omega)) X B FO (by (first | grind | omega)) (by (first | grind | omega)) hn (by (first | grind | omega)) (by (first | grind | omega)) hx0 hx1 (by simp) (p_b0 ..) (p_b1 ..) (p_b2 ..) (by kernel_rfl) (p_d ..)
      · exact p_tail (ρz := r5q a b n (ds.map .int) (dstep b n 0 (x :: rest)).1 d' q' (.lst ((dstep b n 0 (x :: rest)).2.reverse.map .int))) X B FO N hn (by rw [f3]; exact hlen) (by rw [f3]; (first | grind | omega)) f4 (by kernel_rfl) (p_e0 ..) (p_e1 ..) (by kernel_rfl) (p_e7 ..)
  obtain ⟨ρf, ρw, hl, htail⟩ := hloop
  rw [key.1, key.2] at htail
  refine fn_call (k := 80) B (fn63 X) (by first | kernel_rfl | decide +kernel) rfl rfl (st' := (ρw, none)) ?_
  rw [p_eq]
  refine ex_cons (st₁ := (r1 a b n, none)) (ex_assign (ρ := r0 a b) (d := .int n) (fun env F => sd.e p0 (kindF F)) (fun env F => swaps_plain (by kernel_rfl)) (by first | kernel_rfl | decide +kernel) rfl (.inl rfl)) ?_
  refine ex_cons (st₁ := (r2 a b n (ds.map .int), none)) (ex_assign (ρ := r1 a b n) (d := .lst (ds.map .int)) (fun env F => ev_callF B (kg F _ (by first | kernel_rfl | decide +kernel)) (show GL.lookup (Str.ofString "_int2digits") = some (.fn 49) from by first | kernel_rfl | decide +kernel) (.cons (by kernel_rfl) (sd.e (p_10 ..) (kindF F)) (.cons (by kernel_rfl) (sd.e (p_11 ..) (kindF F)) .nil)) hi)
    (fun env F => swaps_plain (by kernel_rfl)) (by first | kernel_rfl | decide +kernel) rfl (.inl rfl)) ?_
  refine ex_cons (st₁ := (r3 a b n (ds.map .int) 0, none)) (ex_assign (ρ := r2 a b n (ds.map .int)) (d := .int 0) (fun env F => sd.e (p_2 ..) (kindF F)) (fun env F => swaps_plain (by kernel_rfl)) (by first | kernel_rfl | decide +kernel) rfl (.inl rfl)) ?_
  refine ex_cons (ex_own (by first | kernel_rfl | decide +kernel) (by first | kernel_rfl | decide +kernel) (by kernel_rfl)) ?_
  exact ex_cons (ex_for (fun env F => iterD_sound B sd (p_it ..) F) (by kernel_rfl) (.inr ⟨_, rfl⟩) hl) htail
end
end Mine
end
section
open PySem PySem.W PySem.Calls PyProof.Rows PySem.Spec PySem.SeqAt PySem.SeqRoads2 PySem.MeetsSeq
set_option Elab.async false
set_option maxRecDepth 100000
set_option linter.unusedVariables false
namespace Mine
noncomputable def m0 : Stmt := stN (bodyAt 70) 0
noncomputable def m1 : Stmt := stN (ifO m0) 0
noncomputable def m2 : Stmt := stN (ifO m1) 0
noncomputable def m3 (i : Nat) : Stmt := stN (ifB m2) i
noncomputable def m4 : Stmt := stN (ifO m2) 0
theorem m_eq : bodyAt 70 = [.If (ifT m0) (ifB m0) [.If (ifT m1) (ifB m1) [.If (ifT m2) [.Assign [.Tuple (tuE (asT (m3 0))) (tuK (asT (m3 0))) (tuP (asT (m3 0)))] (pCall (Str.ofString "int_divmod") (asE (m3 0)) [pA (asE (m3 0)) 0, pA (asE (m3 0)) 1]) (poS (m3 0)), .Return (some (reE (m3 1))) (poS (m3 1))]
  [.Return (some (pCall (Str.ofString "_divmod_pos") (reE m4) [pA (reE m4) 0, pA (reE m4) 1])) (poS m4)] (poS m2)] (poS m1)] (poS m0)] := by kernel_rfl
section
variable (phi : Addr → List D → Option D) (a b q r : Int)
theorem m_0 : (evs phi 8).t (namesAt 70) (r0 a b) (ifT m0) = some (b == 0) := by kernel_rfl
theorem m_1 : (evs phi 8).t (namesAt 70) (r0 a b) (ifT m1) = some (decide (b < 0)) := by kernel_rfl
theorem m_2 : (evs phi 8).t (namesAt 70) (r0 a b) (ifT m2) = some (decide (a < 0)) := by kernel_rfl
theorem m_30 : (evs phi 8).e (namesAt 70) (r0 a b) (pA (asE (m3 0)) 0) = some (.int (Builtin.bitNot a)) := by kernel_rfl
theorem m_31 : (evs phi 8).e (namesAt 70) (r0 a b) (pA (asE (m3 0)) 1) = some (.int b) := by kernel_rfl
theorem m_32 : (evs phi 8).e (namesAt 70) (r0 a b ++ [(Str.ofString "q", .int q), (Str.ofString "r", .int r)]) (reE (m3 1)) = some (.tup [.int (Builtin.bitNot q), .int (b + Builtin.bitNot r)]) := by kernel_rfl
theorem m_40 : (evs phi 8).e (namesAt 70) (r0 a b) (pA (reE m4) 0) = some (.int a) := by kernel_rfl
theorem m_41 : (evs phi 8).e (namesAt 70) (r0 a b) (pA (reE m4) 1) = some (.int b) := by kernel_rfl
end
theorem bitNot_eq (a : Int) : Builtin.bitNot a = -a - 1 := by
  unfold Builtin.bitNot
  (first | grind | omega)
section
variable {W : Wd} {P : Params}
theorem kgx {f : Addr} {env : Env} (F : FEnv (namesAt f) env) (x : Str) (h : (namesAt f).lookup x = some .globalImplicit) : env.kindOf x = some .globalImplicit := (kindF F x).1 h
theorem dm_pos {a b : Nat} (X : (hd.heap_39 P).In W.base) (B : BaseOK W) (FO : FlagsOK W) (N : NestOK W) (ha : a < 2 ^ 62) (hb0 : 1 ≤ b) (hb : b ≤ 1000) : CallOK W 82 70 [.int a, .int b] (.tup [.int ((a / b : Nat) : Int), .int ((a % b : Nat) : Int)]) := by
  have hphi : PhiOK W 81 (fun _ _ => none) := fun f ds d h => nomatch h
  have sd := evs_sound (by (first | grind | omega)) B FO hphi 8
  refine fn_call (k := 81) B (fn70 X) (by first | kernel_rfl | decide +kernel) rfl rfl (st' := (r0 a b, none)) ?_
  rw [m_eq]
  refine ex_stop (fun e => nomatch e) (ex_if (c := false) (fun env F => sd.t (ρ := r0 a b) (by rw [m_0]; simp; (first | grind | omega)) (kindF F)) ?_)
  refine ex_stop (fun e => nomatch e) (ex_if (c := false) (fun env F => sd.t (ρ := r0 a b) (by rw [m_1]; simp) (kindF F)) ?_)
  refine ex_stop (fun e => nomatch e) (ex_if (c := false) (fun env F => sd.t (ρ := r0 a b) (by rw [m_2]; simp) (kindF F)) ?_)
  exact ex_stop (fun e => nomatch e) (ex_return fun env F => ev_callF B (kgx F _ (by first | kernel_rfl | decide +kernel)) (show GL.lookup (Str.ofString "_divmod_pos") = some (.fn 63) from by first | kernel_rfl | decide +kernel) (.cons (by kernel_rfl) (sd.e (m_40 ..) (kindF F)) (.cons (by kernel_rfl) (sd.e (m_41 ..) (kindF F)) .nil)) (dpos X B FO N ha hb0 hb))
theorem dm_neg {a : Int} {b : Nat} (X : (hd.heap_39 P).In W.base) (B : BaseOK W) (FO : FlagsOK W) (N : NestOK W) (h0 : a < 0) (ha : a.natAbs < 2 ^ 62) (hb0 : 1 ≤ b) (hb : b ≤ 1000) : CallOK W 83 70 [.int a, .int b] (.tup [.int (a.fdiv b), .int (a.fmod b)]) := by
  have hphi : PhiOK W 82 (fun _ _ => none) := fun f ds d h => nomatch h
  have sd := evs_sound (by (first | grind | omega)) B FO hphi 8
  obtain ⟨m, hm⟩ : ∃ m : Nat, Builtin.bitNot a = (m : Int) := ⟨(-a - 1).toNat, by rw [bitNot_eq]; (first | grind | omega)⟩
  have hm' : a = -(m : Int) - 1 := by rw [bitNot_eq] at hm; (first | grind | omega)
  have key : a.fdiv b = Builtin.bitNot ((m / b : Nat) : Int) ∧ a.fmod b = (b : Int) + Builtin.bitNot ((m % b : Nat) : Int) := by
    rw [bitNot_eq, bitNot_eq, Int.fdiv_eq_ediv_of_nonneg _ (by (first | grind | omega)), Int.fmod_eq_emod_of_nonneg _ (by (first | grind | omega))]
    have h1 := Nat.div_add_mod m b
    have h2 := Nat.mod_lt m (show b > 0 by (first | grind | omega))
    have h3 : (b : Int) * ((m / b : Nat) : Int) + ((m % b : Nat) : Int) = (m : Int) := by exact_mod_cast h1
    refine (Int.ediv_emod_unique (by (first | grind | omega))).mpr ⟨?_, by (first | grind | omega), by (first | grind | omega)⟩
    rw [Int.mul_sub, Int.mul_neg, Int.mul_one]
    (first | grind | omega)
  rw [key.1, key.2]
  refine fn_call (k := 82) B (fn70 X) (by first | kernel_rfl | decide +kernel) rfl rfl (st' := (r0 a b ++ [(Str.ofString "q", .int ((m / b : Nat) : Int)), (Str.ofString "r", .int ((m % b : Nat) : Int))], none)) ?_
  rw [m_eq]
  refine ex_stop (fun e => nomatch e) (ex_if (c := false) (fun env F => sd.t (ρ := r0 a b) (by rw [m_0]; simp; (first | grind | omega)) (kindF F)) ?_)
  refine ex_stop (fun e => nomatch e) (ex_if (c := false) (fun env F => sd.t (ρ := r0 a b) (by rw [m_1]; simp) (kindF F)) ?_)
  refine ex_stop (fun e => nomatch e) (ex_if (c := true) (fun env F => sd.t (ρ := r0 a b) (by rw [m_2]; simp [h0]) (kindF F)) ?_)
  have m30 := m_30 (fun _ _ => none) a b
  rw [hm] at m30
  refine ex_cons (st₁ := (r0 a b ++ [(Str.ofString "q", .int ((m / b : Nat) : Int)), (Str.ofString "r", .int ((m % b : Nat) : Int))], none)) ?_ (ex_stop (fun e => nomatch e) (ex_return fun env F => sd.e (m_32 ..) (kindF F)))
  have := ex_tuple (W := W) (k := 82) (names := namesAt 70) (ts := tuE (asT (m3 0))) (xs := [Str.ofString "q", Str.ofString "r"]) (k1 := tuK (asT (m3 0))) (p1 := tuP (asT (m3 0))) (pos := poS (m3 0)) (e := pCall (Str.ofString "int_divmod") (asE (m3 0)) [pA (asE (m3 0)) 0, pA (asE (m3 0)) 1]) (ρ := r0 a b) (od := none)
    (d := .tup [.int ((m / b : Nat) : Int), .int ((m % b : Nat) : Int)]) (as := [.int ((m / b : Nat) : Int), .int ((m % b : Nat) : Int)]) (by kernel_rfl)
    (fun env F => ev_callF B (kgx F _ (by first | kernel_rfl | decide +kernel)) (show GL.lookup (Str.ofString "int_divmod") = some (.fn 70) from by first | kernel_rfl | decide +kernel) (.cons (by kernel_rfl) (sd.e m30 (kindF F)) (.cons (by kernel_rfl) (sd.e (m_31 ..) (kindF F)) .nil)) (dm_pos X B FO N (by (first | grind | omega)) hb0 hb)) rfl rfl (fun x hx => by
        have : [Str.ofString "q", Str.ofString "r"].all (fun x => okStore (namesAt 70) none x) = true := by first | kernel_rfl | decide +kernel
        exact List.all_eq_true.mp this x hx) (fun env F => swapped_none (by kernel_rfl))
  exact this
theorem phiD_ok (X : (hd.heap_39 P).In W.base) (B : BaseOK W) (FO : FlagsOK W) (N : NestOK W) : PhiOK W 83 phiD := fun f ds d h => by
  by_cases hf : (f == 70) = true
  · have h' : dmD ds = some d := (if_pos hf).symm.trans h
    have hf' : f = 70 := eq_of_beq hf
    clear h
    match ds, h' with
    | [x, y], h' =>
      obtain ⟨a, ha, h1⟩ := Option.bind_eq_some_iff.mp h'
      obtain ⟨b, hb, h2⟩ := Option.bind_eq_some_iff.mp h1
      obtain ⟨hc, he⟩ := if_some h2
      simp only [Bool.and_eq_true, decide_eq_true_eq] at hc
      obtain ⟨⟨h1, h2⟩, h3⟩ := hc
      rw [asInt_eq ha, asInt_eq hb, ← he, hf']
      clear ha hb he h'
      refine ⟨?_, fnHas (fn70 X)⟩
      obtain ⟨bn, rfl⟩ := Int.eq_ofNat_of_zero_le (Int.le_trans (by decide) h1)
      have hb1 : 1 ≤ bn := Int.ofNat_le.mp h1
      have hb2 : bn ≤ 1000 := Int.ofNat_le.mp h2
      by_cases h0 : a < 0
      · exact dm_neg X B FO N h0 h3 hb1 hb2
      · obtain ⟨an, rfl⟩ := Int.eq_ofNat_of_zero_le (Int.not_lt.mp h0)
        have := (dm_pos X B FO N (a := an) (b := bn) h3 hb1 hb2).mono (show 82 ≤ 83 by decide)
        rw [show (an : Int).fdiv bn = ((an / bn : Nat) : Int) by rw [Int.fdiv_eq_ediv_of_nonneg _ (Int.natCast_nonneg _)]; rfl, show (an : Int).fmod bn = ((an % bn : Nat) : Int) by rw [Int.fmod_eq_emod_of_nonneg _ (Int.natCast_nonneg _)]; rfl]
        exact this
    | [], h' => exact no_some h'
    | [_], h' => exact no_some h'
    | _ :: _ :: _ :: _, h' => exact no_some h'
  · exact no_some ((if_neg hf).symm.trans h)
end
end Mine
end
section
open PySem PySem.W PySem.Calls PyProof.Rows PySem.Spec PySem.SeqAt PySem.SeqRoads2 PySem.MeetsSeq
set_option Elab.async false
set_option maxRecDepth 100000
set_option linter.unusedVariables false
namespace Mine
section
variable {W : Wd} {k : Nat} {P : Params}
theorem PhiOK.mono {phi : Addr → List D → Option D} {j : Nat} (h : PhiOK W k phi) (hj : k ≤ j) : PhiOK W j phi := fun f ds d e => ⟨(h f ds d e).1.mono hj, (h f ds d e).2⟩
theorem phiW_ok (X : (hd.heap_39 P).In W.base) (B : BaseOK W) (FO : FlagsOK W) (N : NestOK W) : PhiOK W 84 phiW := fun f ds d h => by
  have hp := phiD_ok X B FO N
  unfold phiW at h
  split at h
  · exact ⟨callF_sound (by (first | grind | omega)) B FO hp (fn85 X) h, fnHas (fn85 X)⟩
  · exact ⟨callF_sound (by (first | grind | omega)) B FO hp (fn78 X) h, fnHas (fn78 X)⟩
  · exact ⟨callF_sound (by (first | grind | omega)) B FO hp (fn21 X) h, fnHas (fn21 X)⟩
  · exact ⟨callF_sound (by (first | grind | omega)) B FO hp (fn28 X) h, fnHas (fn28 X)⟩
  · exact ⟨callF_sound (by (first | grind | omega)) B FO hp (fn95 X) h, fnHas (fn95 X)⟩
  · exact (hp.mono (by (first | grind | omega))) f ds d h
theorem phiC_ok (X : (hd.heap_39 P).In W.base) (B : BaseOK W) (FO : FlagsOK W) (N : NestOK W) : PhiOK W 85 phiC := fun f ds d h => by
  have hp := phiW_ok X B FO N
  unfold phiC at h
  split at h
  · exact ⟨callF_sound (by (first | grind | omega)) B FO hp (fn90 X) h, fnHas (fn90 X)⟩
  · exact (hp.mono (by (first | grind | omega))) f ds d h
end
end Mine
end
section
open PySem PySem.W PySem.Calls PyProof.Rows PySem.Spec PySem.SeqAt PySem.SeqRoads2 PySem.MeetsSeq
set_option Elab.async false
set_option maxRecDepth 100000
set_option linter.unusedVariables false
namespace Mine
/-- items that are pairs -/
structure Walking2 (W : Wd) (A : Around) (s s₂ : Shared) (as : List (At × At)) (I : Addr) (fp wr : List Addr) (Pt : Nat → Array Value → Prop) (St : Nat → Heap → Prop) (Mid : Nat → Addr → Heap → Prop) : Prop where
  walks : WalksT W.prog W.w A I fp wr as.length Pt St Mid
  st : St 0 s₂.heap
  fpl : ∀ b ∈ fp, b < s₂.heap.objs.size
  fpt : ∀ b ∈ fp, b ∉ tabs
  item : ∀ i vals, i < as.length → Pt i vals → ∃ u v p, vals = #[u, v] ∧ as[i]? = some p ∧ ARep u p.1 ∧ ARep v p.2
  ext : Ext s s₂
  ti : TI wr s₂.heap
  fresh : ∀ b ∈ wr, s.heap.get? b = none ∧ b ∉ tabs
  live : ∀ i h, St i h → ∀ b ∈ wr, (h.get? b).isSome

section
variable (W : Wd) (k : Nat) (scope : Scope) (cl : List (Str × Addr)) (env : Env) (x y : Str) (elt : Expr) (ρ' : Rho)
inductive CompAll2 : List (At × At) → List At → Prop
  | nil : CompAll2 [] []
  | take {a : At × At} {b : At} {as : List (At × At)} {bs : List At} : (∀ C, EvTo W k (compEnvC scope cl C env) ((y, .at a.2) :: (x, .at a.1) :: ρ') elt (.at b)) → CompAll2 as bs → CompAll2 (a :: as) (b :: bs)
end

section
variable {W : Wd} {k : Nat} {scope : Scope} {cl : List (Str × Addr)} {env : Env} {x y : Str} {elt : Expr} {ρ : Rho}
/-- a comprehension over two names -/
structure CompOK2 (scope : Scope) (cl : List (Str × Addr)) (env : Env) (x y : Str) : Prop extends CompOK scope cl env x where
  loc2 : scope.names.lookup y = some .local
  ok2 : okName y = true
  ne : x ≠ y
theorem CompOK2.rd2 {C : Addr} {h : Heap} {m : Str → Option Value} {u v : Value} {a b : At} (c : CompOK2 scope cl env x y) (R : Rd env h ρ) (hn : h.Ns C m) (hm : m x = some u) (hm2 : m y = some v) (ru : ARep u a) (rv : ARep v b) :
    Rd (compEnvC scope cl C env) h ((y, .at b) :: (x, .at a) :: innerOf scope.names ρ) := by
  intro z d hz
  rw [List.lookup_cons] at hz
  cases hb : z == y with
  | true =>
    rw [hb] at hz
    cases hz
    obtain rfl := eq_of_beq hb
    exact ⟨c.ok2, v, .inl ⟨lookup_relabel_local c.loc2, m, hn, hm2⟩, rv⟩
  | false =>
    rw [hb] at hz
    exact c.toCompOK.rd R hn hm ru z d hz

set_option maxHeartbeats 1000000 in
theorem comp_core2 {A : Around} {s s₂ : Shared} {as : List (At × At)} {bs : List At} {I : Addr} {fp wr : List Addr} {Pt : Nat → Array Value → Prop} {St : Nat → Heap → Prop} {Mid : Nat → Addr → Heap → Prop} {iter : Expr} {px py pt pos : Pos} {kt : Nat}
    (w : Walking2 W A s s₂ as I fp wr Pt St Mid) (c : CompOK2 scope cl env x y) (rm : Room k A) (ok : OK W s) (E : EnvOK env) (R : Rd env (gh s.heap) ρ) (hall : CompAll2 W k scope cl env x y elt (innerOf scope.names ρ) as bs) (hsz : as.length ≤ 100000)
    {RR : Value → Addr → Result → Shared → Prop}
    (hRR : ∀ Dl C s', Ext s s' → Rep (gh s'.heap) (.ref Dl) (.lst bs) → (∃ m, s'.heap.Ns C m) → s.heap.get? C = none → C ∉ tabs → Dl ≠ C → TI [C] s'.heap → RR (.ref Dl) C (.ok .next) s') :
    wpF W A (newList []) (fun acc s₃ => wpF W A (newFunctionEnv scope env.globals cl [] env.qual none .none (some env)) (fun cenv s₄ =>
      codeAny (model W.prog W.w) A (.compStart (.ListComp elt [⟨.Tuple [.Name x px, .Name y py] kt pt, iter, [], 0⟩] scope pos) 0 (.ref I) acc { cenv with scope := relabel scope env }) (RR acc cenv.locals) s₄) s₃) s₂ := by
  refine comp_init (G := fun acc cenv s₄ => codeAny (model W.prog W.w) A (.compStart (.ListComp elt [⟨.Tuple [.Name x px, .Name y py] kt pt, iter, [], 0⟩] scope pos) 0 (.ref I) acc { cenv with scope := relabel scope env }) (RR acc cenv.locals) s₄) w.walks.frame w.walks.sub w.st w.fpl w.fpt w.ext w.ti w.fresh w.live c.toCompOK ok fun C Dl s₅ cenv e1 e2 fix inv0 => ?_
  show codeAny (model W.prog W.w) A (.compStart (.ListComp elt [⟨.Tuple [.Name x px, .Name y py] kt pt, iter, [], 0⟩] scope pos) 0 (.ref I) (.ref Dl) { cenv with scope := relabel scope env }) (RR (.ref Dl) cenv.locals) s₅
  rw [e1, e2]
  have Ec := c.envOK (C := C) E
  have hkx : (compEnvC scope cl C env).kindOf x = some .local := lookup_relabel_local c.loc
  have hky : (compEnvC scope cl C env).kindOf y = some .local := lookup_relabel_local c.loc2
  have hpl : ((compEnvC scope cl C env).scope.kind == .class || ((compEnvC scope cl C env).scope.kind == .module && (compEnvC scope cl C env).locals != (compEnvC scope cl C env).globals)) = false := by simp [compEnvC, relabel, c.kind]
  have loop : codeAny (model W.prog W.w) A (.compLoop (.ListComp elt [⟨.Tuple [.Name x px, .Name y py] kt pt, iter, [], 0⟩] scope pos) 0 (.ref I) (.ref Dl) (compEnvC scope cl C env)) (RR (.ref Dl) C) s₅ := by
    refine kcp_loop (fun j s' => ∃ i bd br, j = as.length + 1 - i ∧ i ≤ as.length ∧ bd.length ≤ i ∧ LInv W s s₅ (C :: Dl :: wr) fp St C Dl i bd s' ∧ CompAll2 W k scope cl env x y elt (innerOf scope.names ρ) (as.drop i) br ∧ bd ++ br = bs) ?_ (as.length + 1) ⟨0, [], bs, rfl, Nat.zero_le _, Nat.le_refl _, inv0, hall, rfl⟩
    rintro j s' ⟨i, bd, br, rfl, hi, hbd, inv, hc, hbs⟩
    by_cases hlt : i < as.length
    · refine w.walks.item i s' _ _ hlt inv.st fun T vals h₂ tk hP hge hT hMid hk => ?_
      obtain ⟨u, v, p, rfl, ha, ru, rv⟩ := w.item i vals hlt hP
      obtain ⟨m, hn⟩ := inv.ns
      refine w.walks.go _ _ _ i T _ _ _ hMid fun h₂' hst₂ hk' => ?_
      have hTw : T ∉ wr := w.walks.apart _ _ _ hMid
      have hT' : h₂'.IsTuple T #[u, v] := hT.at fun o e => hk' T o hTw e
      have hkk : ∀ b o, b ∉ wr → s'.heap.get? b = some o → h₂'.get? b = some o := fun b o hb e => hk' b o hb (hk b o hb e)
      refine kcp_assign (s := { s' with heap := h₂', toks := tk }) rm.1 hT' hkx hky hpl (hn.at' fun o e => hkk C o fix.cw e) fun h₃ tk₃ hn₃ hs₃ => ?_
      have inv₃ := fix.draw (tk := tk₃) inv (fun b o b1 b2 e => hs₃ b o b1 (hkk b o b2 e)) hn₃ (w.walks.frame _ _ _ hst₂ fun b hb o e => hs₃ b o (fix.fpt b hb).2.1 e)
      have e₃ := fix.out inv₃
      have ok₃ := ok.ext e₃
      have R₃ := c.rd2 (R.keeps e₃.kp') (ns_gh hn₃ fix.ct) (u := u) (v := v) (by simp [c.ne]) (by simp) ru rv
      have hdrop : as.drop i = p :: as.drop (i + 1) := by
        rw [List.drop_eq_getElem_cons hlt]
        rw [List.getElem?_eq_getElem hlt] at ha
        cases ha; rfl
      rw [hdrop] at hc
      have hm : as.length + 1 - (i + 1) < as.length + 1 - i := Nat.sub_lt_sub_left (Nat.lt_succ_of_lt hlt) (Nat.lt_succ_self i)
      cases hc with
      | take he hc' =>
        rename_i b br'
        refine wp_false (he C A _ _ rm ok₃ Ec R₃ fun u s₆ x₆ r₆ => ?_)
        refine fix.push (fix.step inv₃ x₆) (Nat.le_trans hbd (Nat.le_trans hi hsz)) r₆ fun s₇ inv₇ => ?_
        exact ⟨_, hm, i + 1, bd ++ [b], br', rfl, hlt, by rw [List.length_append]; exact Nat.succ_le_succ hbd, inv₇, hc', by rw [← hbs]; simp⟩
    · have hie : i = as.length := Nat.le_antisymm hi (Nat.le_of_not_lt hlt)
      subst hie
      refine w.walks.done s' _ _ inv.st fun h₂ tk hk => ?_
      rw [List.drop_length] at hc
      cases hc
      rw [List.append_nil] at hbs
      subst hbs
      obtain ⟨f1, f2, f3, f4, f5⟩ := fix.last (tk := tk) inv hk
      exact hRR Dl C _ f1 f2 f3 f4 fix.ct fix.cd f5
  exact codeAny_compStart_list loop (w.walks.self 0 _ _ _ inv0.st loop)
end
end Mine
end
section
open PySem PySem.W PySem.Calls PyProof.Rows PySem.Spec PySem.SeqAt PySem.SeqRoads2 PySem.MeetsSeq
set_option Elab.async false
set_option maxRecDepth 100000
set_option linter.unusedVariables false
namespace Mine
noncomputable def pairsOf (as : List At) : List (At × At) := as.zipIdx.map fun p => (At.int (p.2 : Nat), p.1)
theorem pairsOf_len (as : List At) : (pairsOf as).length = as.length := by simp [pairsOf]
theorem pairsOf_at {as : List At} {i : Nat} {a : At} (h : as[i]? = some a) : (pairsOf as)[i]? = some (.int (i : Nat), a) := by
  simp [pairsOf, List.getElem?_zipIdx, h]
section
variable {W : Wd} {k : Nat} {env : Env} {ρ : Rho} {names : Names}
theorem Walking2.back {A : Around} {s s₁ s₂ : Shared} {as : List (At × At)} {I : Addr} {fp wr : List Addr} {Pt : Nat → Array Value → Prop} {St : Nat → Heap → Prop} {Mid : Nat → Addr → Heap → Prop} (x : Ext s s₁) (w : Walking2 W A s₁ s₂ as I fp wr Pt St Mid) : Walking2 W A s s₂ as I fp wr Pt St Mid :=
  { w with ext := x.trans w.ext, fresh := fun b hb => ⟨(by
      cases e : s.heap.get? b with
      | none => rfl
      | some o => have := x.al b (fun m => nomatch m) (by rw [e]; rfl); rw [(w.fresh b hb).1] at this; cases this), (w.fresh b hb).2⟩ }
theorem itE_enum {p pos : Pos} {e : Expr} {as : List At} (B : BaseOK W) (hx : env.kindOf (Str.ofString "enumerate") = some .globalImplicit) (hpl : plainArg e = true) (he : EvTo W k env ρ e (.lst as)) :
    ∀ A s (Q : Value → Shared → Prop), Room k A → OK W s → EnvOK env → Rd env (gh s.heap) ρ → (∀ s₂ I fp wr Pt St Mid, Walking2 W A s s₂ (pairsOf as) I fp wr Pt St Mid → Q (.ref I) s₂) →
    wpF W A (eval (.Call (.Name (Str.ofString "enumerate") p) [e] [] pos) env) (fun x s₁ => wpF W A (pyIter x) Q s₁) s := fun A s Q rm ok E R q => by
  have ha : EvTos W k env ρ [e] [.lst as] := .cons hpl he .nil
  refine Call_Name rfl (ev_global B hx (d := .ty "enumerate") (by first | kernel_rfl | decide +kernel) A s _ rm ok E R fun v s₁ x₁ r₁ => ?_)
  obtain rfl : v = .type "enumerate" := r₁
  have ok₁ := ok.ext x₁
  refine PyProof.Rows.callWith_type (plain_args ha) (ev_args ha A s₁ _ rm ok₁ E (R.keeps x₁.kp') fun vs s₂ x₂ r₂ => ?_)
  obtain ⟨v, rfl, rv⟩ := reps1 r₂
  obtain ⟨l, ws, n, rfl, hl, rw'⟩ := rv
  have ok₂ := ok₁.ext x₂
  have hL := isList_of (of_gh hl)
  refine call_enumerate_list hL fun h' hE hIt hsz hk => ?_
  have hlt : l < s₂.heap.objs.size := Heap.lt_size (of_gh hl)
  have n1 : s₂.heap.get? s₂.heap.objs.size = none := Heap.get?_none_of_le (Nat.le_refl _)
  have n2 : s₂.heap.get? (s₂.heap.objs.size + 1) = none := Heap.get?_none_of_le (Nat.le_succ _)
  have hlen : ws.toArray.size = (pairsOf as).length := by rw [List.size_toArray, rw'.length, pairsOf_len]
  have hwk := WalksT.enumerate (prog := W.prog) (w := W.w) (A := A) rm.1 (s₂.heap.objs.size + 1) s₂.heap.objs.size l (Nat.succ_ne_self _) (Nat.ne_of_lt (Nat.lt_succ_of_lt hlt)) (Nat.ne_of_lt hlt) ws.toArray
  have hst : (fun (i : Nat) (h : Heap) => (∃ old, IsEnum h (s₂.heap.objs.size + 1) s₂.heap.objs.size i old) ∧ h.IsListIter s₂.heap.objs.size l i ∧ h.IsList l ws.toArray) 0 h' := ⟨⟨_, hE⟩, hIt, hL.at fun o e => hk l o e⟩
  refine hwk.self 0 _ _ _ hst ?_
  refine q _ _ [s₂.heap.objs.size + 1, s₂.heap.objs.size, l] [s₂.heap.objs.size + 1, s₂.heap.objs.size] _ _ _ (Walking2.back (x₁.trans x₂) ⟨hlen ▸ hwk, hst, fun b hb => ?_, fun b hb => ?_, fun i vals hi hP => ?_, .of_keep (tk := s₂.toks) hk, ok₂.1.freshAll hk fun b hb => ?_, fun b hb => ?_, fun i h st b hb => ?_⟩)
  · show b < h'.objs.size
    rw [hsz]
    simp only [List.mem_cons, List.not_mem_nil, or_false] at hb
    rcases hb with rfl | rfl | rfl
    · exact Nat.lt_succ_self _
    · exact Nat.lt_succ_of_lt (Nat.lt_succ_self _)
    · exact Nat.lt_succ_of_lt (Nat.lt_succ_of_lt hlt)
  · simp only [List.mem_cons, List.not_mem_nil, or_false] at hb
    rcases hb with rfl | rfl | rfl
    · exact ok₂.1.big (Nat.le_succ _)
    · exact ok₂.1.big (Nat.le_refl _)
    · exact gh_notin hl
  · obtain ⟨t, x, hx, rfl⟩ := hP
    obtain ⟨a, ha, ra⟩ := rw'.at (by simpa using hx)
    exact ⟨_, _, _, rfl, pairsOf_at ha, ⟨t, rfl⟩, ra⟩
  · simp only [List.mem_cons, List.not_mem_nil, or_false] at hb
    rcases hb with rfl | rfl
    · exact n2
    · exact n1
  · simp only [List.mem_cons, List.not_mem_nil, or_false] at hb
    rcases hb with rfl | rfl
    · exact ⟨n2, ok₂.1.big (Nat.le_succ _)⟩
    · exact ⟨n1, ok₂.1.big (Nat.le_refl _)⟩
  · obtain ⟨⟨old, hE⟩, ⟨o, ho, _⟩, _⟩ := st
    simp only [List.mem_cons, List.not_mem_nil, or_false] at hb
    rcases hb with rfl | rfl
    · rw [hE]; rfl
    · rw [ho]; rfl
theorem ex_comp2 {x x' y : Str} {px px' py pt pos spos p ep : Pos} {kt : Nat} {elt e : Expr} {scope : Scope} {ρ : Rho} {as : List At} {bs : List At} (B : BaseOK W) (hx : names.lookup (Str.ofString "enumerate") = some .globalImplicit) (hpl : plainArg e = true)
    (he : ∀ env, FEnv names env → EvTo W k env ρ e (.lst as)) (hl : compLook scope.names names scope.kind x ρ = true) (hl2 : scope.names.lookup x' = some .local) (ho2 : okName x' = true) (hne : x ≠ x')
    (hall : ∀ cl env, CompAll2 W k scope cl env x x' elt (innerOf scope.names ρ) (pairsOf as) bs) (hsz : as.length ≤ 100000)
    (hsw : swE names y py (.ListComp elt [⟨.Tuple [.Name x px, .Name x' px'] kt pt, .Call (.Name (Str.ofString "enumerate") p) [e] [] ep, [], 0⟩] scope pos) = some true) (hy : okStore names none y = true) :
    ExS W k names (.Assign [.Name y py] (.ListComp elt [⟨.Tuple [.Name x px, .Name x' px'] kt pt, .Call (.Name (Str.ofString "enumerate") p) [e] [] ep, [], 0⟩] scope pos) spos) (ρ, none) (setR ρ y (.lst bs), none) .next := fun A s hb env ow Q rm F om S q => by
  obtain rfl := om.none_iff
  obtain ⟨h1, h2, h3⟩ := okStore_at F hy
  unfold wpF
  rw [exec_Assign_Name_used _ _ _ _ (swE_eq F hsw)]
  refine wpAny_bind (wpAny_standAt (wpAny_bind ?_))
  have co : CompOK2 scope (clOf scope.names env.cells []) env x x' := ⟨compOK_of (by rw [← F.names]; exact KindOK.self) hl S.rd, hl2, ho2, hne⟩
  show wpAny _ A (do let _ ← comprehension (.ListComp elt [⟨.Tuple [.Name x px, .Name x' px'] kt pt, .Call (.Name (Str.ofString "enumerate") p) [e] [] ep, [], 0⟩] scope pos) scope env _ (newList []) false (eval (.Call (.Name (Str.ofString "enumerate") p) [e] [] ep) env) (some (assign (.Name y py) env))) _ _ s
  refine wpAny_bind (wpAny_mono (wpAny_comprehension_free (use := some (assign (.Name y py) env)) (Q := fun _ s' => Q .next s') rfl (folded_plain rfl) co.clos co.kind co.names (itE_enum B ((kindF F _).1 hx) hpl (he env F) A s _ rm S.ok F.ok S.rd fun s₂ I fp wr Pt St Mid w => ?_)) (fun _ s' hq => wpAny_pure (wpAny_pure hq)) fun _ _ e => e)
  refine comp_core2 w co rm S.ok F.ok S.rd (hall _ env) (by rw [pairsOf_len]; exact hsz) fun Dl C s' e r hn hC hCt hDC ti => ?_
  obtain ⟨m, hn⟩ := hn
  have x' : Ext s s' := e
  have fr : s.heap.get? C = none := hC
  have hCm : C ∉ muOf env none := fun m => by have := S.al C m; rw [fr] at this; cases this
  have hbC : hb.get? C = none := by
    cases q : hb.get? C with
    | none => rfl
    | some o => have := of_gh (S.keep C o q); rw [fr] at this; cases this
  have k₂ : Keep hb (hideAll (gh s'.heap) (C :: muOf env none)) := fun b o q => hideAll_get _ (x'.kp' b o (S.keep b o q)) fun m => by
    rcases List.mem_cons.mp m with rfl | m
    · rw [hbC] at q; cases q
    · rw [S.hbm b m] at q; cases q
  have S' : Stt W (hideAll (gh s'.heap) (C :: muOf env none)) env ρ none s' := S.ext2 x' k₂ (fun b o q => of_hideAll _ q) fun b hb => hideAll_none _ (.tail _ hb)
  have r' : Rep (hideAll (gh s'.heap) (C :: muOf env none)) (.ref Dl) (.lst bs) := r.hide rfl fun b hb o eo => by
    rcases List.mem_cons.mp hb with rfl | hb
    · exact ns_notSeq hn o (of_gh eo)
    · rcases List.mem_cons.mp hb with rfl | hb
      · obtain ⟨m, hn, _⟩ := S'.ns
        exact ns_notSeq hn o (of_gh eo)
      · simp only [owL, List.append_nil] at hb
        obtain ⟨⟨x, c⟩, hm, rfl⟩ := List.mem_map.mp hb
        obtain ⟨v, hv⟩ := S'.cells x c hm
        exact cell_notSeq hv o (of_gh eo)
  show wpAny _ A (assign (.Name y py) env (.ref Dl)) _ _ s'
  refine wpAny_assign_Name (S'.store F.ok h1 h2 r' rfl h3 fun s'' st S'' => ?_)
  have hn'' : s''.heap.Ns C m := hn.at' fun o eo => of_gh (st.x.kp C o hCm (gh_get eo hCt))
  refine ⟨m, hn'', fun h₃ hs₃ => ?_⟩
  have alC' : (s'.heap.get? C).isSome := by obtain ⟨o, _, _, eo, _⟩ := hn; rw [eo]; rfl
  have alC : (s''.heap.get? C).isSome := by obtain ⟨o, _, _, eo, _⟩ := hn''; rw [eo]; rfl
  have tiC : TI [C] s''.heap := ((ti.union S'.ti).step st.x.tab (fun b hb => by
      rcases List.mem_append.mp hb with hb | hb
      · simp only [List.mem_cons, List.not_mem_nil, or_false] at hb; subst hb; exact alC'
      · exact S'.al b hb) fun b o hb eo => st.x.kp b o (fun m => hb (List.mem_append.mpr (.inr m))) eo).mono fun b hb => List.mem_append.mpr (.inl hb)
  have sx3 : SExt [C] s'' { s'' with heap := h₃ } := SExt.at (tk := s''.toks) hs₃ hCt
  obtain ⟨S₃, _⟩ := S''.aside sx3 (fun b hb => by
    simp only [List.mem_cons, List.not_mem_nil, or_false] at hb; subst hb
    exact ⟨hCm, hideAll_none _ (.head _)⟩) tiC (fun b hb => by
    simp only [List.mem_cons, List.not_mem_nil, or_false] at hb; subst hb; exact alC)
  have stA : Stp (muOf env none) s s'' := (Stp.of x').chain st (fun b hb => .inl hb) S'.ti S.al
  have stB : Stp (muOf env none) s { s'' with heap := h₃ } := ⟨stA.x.chain sx3 (fun b hb => by
    simp only [List.mem_cons, List.not_mem_nil, or_false] at hb; subst hb; exact .inr fr) tiC fun b hb => stA.all b (S.al b hb), fun b eb => by
    have hbC : b ≠ C := fun e => by rw [e, fr] at eb; cases eb
    show (h₃.get? b).isSome
    rw [hs₃.2 b hbC]; exact stA.all b eb⟩
  exact q _ { s'' with heap := h₃ } _ none stB (fun b hb => .inl hb) trivial S₃ k₂ rfl
end
end Mine
end
section
open PySem PySem.W PySem.Calls PyProof.Rows PySem.Spec PySem.SeqAt PySem.SeqRoads2 PySem.MeetsSeq
set_option Elab.async false
set_option maxRecDepth 100000
set_option linter.unusedVariables false
namespace Mine
section
variable {W : Wd} {k : Nat} {names : Names} {E : Evs}
theorem list_app {f : Stmt → St → Res} (hf : ∀ {c : Stmt} {st st' : St} {fl : FlowD}, f c st = some (st', fl) → ExS W k names c st st' fl) {c2 : List Stmt} {st' : St} {fl : FlowD} {c1 : List Stmt} {st st1 : St} (h : exList f c1 st = some (st1, .next)) (h2 : ExL W k names c2 st1 st' fl) : ExL W k names (c1 ++ c2) st st' fl := by
  induction c1 generalizing st with
  | nil =>
    obtain ⟨rfl, _⟩ := Prod.mk.inj (Option.some.inj h)
    exact h2
  | cons c r ih =>
    obtain ⟨⟨st₁, g⟩, h1, h3⟩ := Option.bind_eq_some_iff.mp h
    cases g with
    | next => exact ex_cons (hf h1) (ih h3)
    | brk => exact FlowD.noConfusion (Prod.mk.inj (Option.some.inj h3)).2
    | ret d => exact FlowD.noConfusion (Prod.mk.inj (Option.some.inj h3)).2
theorem runs_app (B : BaseOK W) (S : Sound W k E) {n : Nat} {c1 c2 : List Stmt} {st st1 st' : St} {fl : FlowD} (h : runs E names (n + 1) c1 st = some (st1, .next)) (h2 : ExL W k names c2 st1 st' fl) : ExL W k names (c1 ++ c2) st st' fl :=
  list_app (frz_sound B S (runs_sound B S n)) h h2
end
noncomputable def divF (a b : Int) : UInt64 := Float64.ofFrac (decide (a < 0) != decide (b < 0)) a.natAbs b.natAbs
theorem div_eq {a b : Int} (h : small a = true) (h0 : b ≠ 0) : binI .Div a b = some (.flt (divF a b)) := by
  unfold binI
  simp only [h, Bool.true_and]
  rw [if_pos (by simpa using h0)]; rfl
/-- hue -/
noncomputable def hvF (r g b M : Int) (rc gc bc : UInt64) : UInt64 := if r == M then Float64.sub bc gc else if g == M then Float64.sub (Float64.add 0x4000000000000000 rc) bc else Float64.sub (Float64.add 0x4010000000000000 gc) rc
noncomputable def hueF (r g b M m : Int) : UInt64 := (Float64.divmod (Float64.div (hvF r g b M (divF (M - r) (M - m)) (divF (M - g) (M - m)) (divF (M - b) (M - m))) 0x4018000000000000) 0x3ff0000000000000).2
noncomputable def sS (i : Nat) : Stmt := stN (bodyAt 21) i
noncomputable def sA : Stmt := stN (ifB (sS 9)) 0
noncomputable def sB : Stmt := stN (ifO (sS 9)) 0
noncomputable def sC : Stmt := stN (ifB sB) 0
noncomputable def sD : Stmt := stN (ifO sB) 0
noncomputable def aS (x : Str) (c : Stmt) : Stmt := .Assign [.Name x (poE (asT c))] (asE c) (poS c)
theorem s_eq : bodyAt 21 = [sS 0, sS 1, sS 2, sS 3] ++ [.If (ifT (sS 4)) (ifB (sS 4)) [] (poS (sS 4)), aS (Str.ofString "s") (sS 5), aS (Str.ofString "rc") (sS 6), aS (Str.ofString "gc") (sS 7), aS (Str.ofString "bc") (sS 8),
  .If (ifT (sS 9)) [aS (Str.ofString "h") sA] [.If (ifT sB) [aS (Str.ofString "h") sC] [aS (Str.ofString "h") sD] (poS sB)] (poS (sS 9)), aS (Str.ofString "h") (sS 10), .Return (some (reE (sS 11))) (poS (sS 11))] := by kernel_rfl
noncomputable def h0 (r g b : Int) : Rho := [(Str.ofString "r", .int r), (Str.ofString "g", .int g), (Str.ofString "b", .int b)]
noncomputable def h4 (r g b M m d : Int) : Rho := h0 r g b ++ [(Str.ofString "maxc", .int M), (Str.ofString "minc", .int m), (Str.ofString "rangec", .int d), (Str.ofString "v", .int M)]
noncomputable def h5 (r g b M m d : Int) (s : UInt64) : Rho := h4 r g b M m d ++ [(Str.ofString "s", .flt s)]
noncomputable def h6 (r g b M m d : Int) (s rc : UInt64) : Rho := h5 r g b M m d s ++ [(Str.ofString "rc", .flt rc)]
noncomputable def h7 (r g b M m d : Int) (s rc gc : UInt64) : Rho := h6 r g b M m d s rc ++ [(Str.ofString "gc", .flt gc)]
noncomputable def h8 (r g b M m d : Int) (s rc gc bc : UInt64) : Rho := h7 r g b M m d s rc gc ++ [(Str.ofString "bc", .flt bc)]
noncomputable def h9 (r g b M m d : Int) (s rc gc bc h : UInt64) : Rho := h8 r g b M m d s rc gc bc ++ [(Str.ofString "h", .flt h)]
section
variable (phi : Addr → List D → Option D) (r g b M m d : Int) (s rc gc bc h : UInt64)
theorem s_03 : runs (evs phi 8) (namesAt 21) 3 [sS 0, sS 1, sS 2, sS 3] (h0 r g b, none) = some ((h4 r g b (max3 r g b) (min3 r g b) (max3 r g b - min3 r g b), none), .next) := by kernel_rfl
theorem s_4 : (evs phi 8).t (namesAt 21) (h4 r g b M m d) (ifT (sS 4)) = some (m == M) := by kernel_rfl
theorem s_5 : (evs phi 8).e (namesAt 21) (h4 r g b M m d) (asE (sS 5)) = binI .Div d M := by kernel_rfl
theorem s_6 : (evs phi 8).e (namesAt 21) (h5 r g b M m d s) (asE (sS 6)) = binI .Div (M - r) d := by kernel_rfl
theorem s_7 : (evs phi 8).e (namesAt 21) (h6 r g b M m d s rc) (asE (sS 7)) = binI .Div (M - g) d := by kernel_rfl
theorem s_8 : (evs phi 8).e (namesAt 21) (h7 r g b M m d s rc gc) (asE (sS 8)) = binI .Div (M - b) d := by kernel_rfl
theorem s_9 : (evs phi 8).t (namesAt 21) (h8 r g b M m d s rc gc bc) (ifT (sS 9)) = some (r == M) := by kernel_rfl
theorem s_a : (evs phi 8).e (namesAt 21) (h8 r g b M m d s rc gc bc) (asE sA) = some (.flt (Float64.sub bc gc)) := by kernel_rfl
theorem s_b : (evs phi 8).t (namesAt 21) (h8 r g b M m d s rc gc bc) (ifT sB) = some (g == M) := by kernel_rfl
theorem s_c : (evs phi 8).e (namesAt 21) (h8 r g b M m d s rc gc bc) (asE sC) = some (.flt (Float64.sub (Float64.add 0x4000000000000000 rc) bc)) := by kernel_rfl
theorem s_d : (evs phi 8).e (namesAt 21) (h8 r g b M m d s rc gc bc) (asE sD) = some (.flt (Float64.sub (Float64.add 0x4010000000000000 gc) rc)) := by kernel_rfl
theorem s_10 : (evs phi 8).e (namesAt 21) (h9 r g b M m d s rc gc bc h) (asE (sS 10)) = some (.flt (Float64.divmod (Float64.div h 0x4018000000000000) 0x3ff0000000000000).2) := by kernel_rfl
theorem s_11 : (evs phi 8).e (namesAt 21) (h9 r g b M m d s rc gc bc h) (reE (sS 11)) = some (.tup [.flt h, .flt s, .int M]) := by kernel_rfl
end
section
variable {W : Wd} {k : Nat} {P : Params} {names : Names}
theorem ex_aS {x : Str} {c : Stmt} {ρ ρ' : Rho} {a : At} {phi : Addr → List D → Option D} {n : Nat} (sd : Sound W k (evs phi n)) (he : (evs phi n).e names ρ (asE c) = some (.at a)) (hc : isComp (asE c) = false) (hx : okStore names none x = true) (hρ : setR ρ x (.at a) = ρ') : ExS W k names (aS x c) (ρ, none) (ρ', none) .next := by
  rw [← hρ]
  exact ex_assign (fun env F => sd.e he (kindF F)) (fun env F => swaps_plain hc) hx rfl (.inl rfl)
theorem hsv_call {r g b M m : Int} (h8' : 8 ≤ k) (X : (hd.heap_39 P).In W.base) (B : BaseOK W) (FO : FlagsOK W) (hM : max3 r g b = M) (hm : min3 r g b = m) (hne : m ≠ M) (h0' : M ≠ 0) (sm : small (M - m) = true) (sr : small (M - r) = true) (sg : small (M - g) = true) (sb : small (M - b) = true) :
    CallOK W (k + 1) 21 [.int r, .int g, .int b] (.tup [.flt (hueF r g b M m), .flt (divF (M - m) M), .int M]) := by
  have hphi : PhiOK W k (fun _ _ => none) := fun f ds d h => nomatch h
  have sd := evs_sound h8' B FO hphi 8
  have hdz : M - m ≠ 0 := by (first | grind | omega)
  let s := divF (M - m) M
  let rc := divF (M - r) (M - m)
  let gc := divF (M - g) (M - m)
  let bc := divF (M - b) (M - m)
  let hv := hvF r g b M rc gc bc
  let d := M - m
  refine fn_call B (fn21 X) (by first | kernel_rfl | decide +kernel) rfl rfl (st' := (h9 r g b M m d s rc gc bc (hueF r g b M m), none)) ?_
  rw [s_eq]
  have h03 := s_03 (fun _ _ => none) r g b
  rw [hM, hm] at h03
  refine runs_app B sd h03 ?_
  refine ex_cons (ex_if (c := false) (fun env F => sd.t (by rw [s_4]; simpa using hne) (kindF F)) ex_nil) ?_
  refine ex_cons (ex_aS (ρ' := h5 r g b M m d s) sd (by rw [s_5]; exact div_eq sm h0') (by kernel_rfl) (by first | kernel_rfl | decide +kernel) (by kernel_rfl)) ?_
  refine ex_cons (ex_aS (ρ' := h6 r g b M m d s rc) sd (by rw [s_6]; exact div_eq sr hdz) (by kernel_rfl) (by first | kernel_rfl | decide +kernel) (by kernel_rfl)) ?_
  refine ex_cons (ex_aS (ρ' := h7 r g b M m d s rc gc) sd (by rw [s_7]; exact div_eq sg hdz) (by kernel_rfl) (by first | kernel_rfl | decide +kernel) (by kernel_rfl)) ?_
  refine ex_cons (ex_aS (ρ' := h8 r g b M m d s rc gc bc) sd (by rw [s_8]; exact div_eq sb hdz) (by kernel_rfl) (by first | kernel_rfl | decide +kernel) (by kernel_rfl)) ?_
  refine ex_cons (st₁ := (h9 r g b M m d s rc gc bc hv, none)) ?_ (ex_cons (ex_aS (ρ' := h9 r g b M m d s rc gc bc (hueF r g b M m)) sd (s_10 ..) (by kernel_rfl) (by first | kernel_rfl | decide +kernel) (by kernel_rfl)) (ex_stop (fun e => nomatch e) (ex_return fun env F => sd.e (s_11 ..) (kindF F))))
  by_cases e1 : r = M
  · refine ex_if (c := true) (fun env F => sd.t (by rw [s_9]; simpa using e1) (kindF F)) ?_
    refine ex_cons (ex_aS sd (s_a ..) (by kernel_rfl) (by first | kernel_rfl | decide +kernel) ?_) ex_nil
    have : hv = Float64.sub bc gc := by show hvF r g b M rc gc bc = _; unfold hvF; rw [if_pos (by simpa using e1)]
    rw [this]; kernel_rfl
  · refine ex_if (c := false) (fun env F => sd.t (by rw [s_9]; simpa using e1) (kindF F)) ?_
    by_cases e2 : g = M
    · refine ex_cons (ex_if (c := true) (fun env F => sd.t (by rw [s_b]; simpa using e2) (kindF F)) ?_) ex_nil
      refine ex_cons (ex_aS sd (s_c ..) (by kernel_rfl) (by first | kernel_rfl | decide +kernel) ?_) ex_nil
      have : hv = Float64.sub (Float64.add 0x4000000000000000 rc) bc := by show hvF r g b M rc gc bc = _; unfold hvF; rw [if_neg (by simpa using e1), if_pos (by simpa using e2)]
      rw [this]; kernel_rfl
    · refine ex_cons (ex_if (c := false) (fun env F => sd.t (by rw [s_b]; simpa using e2) (kindF F)) ?_) ex_nil
      refine ex_cons (ex_aS sd (s_d ..) (by kernel_rfl) (by first | kernel_rfl | decide +kernel) ?_) ex_nil
      have : hv = Float64.sub (Float64.add 0x4010000000000000 gc) rc := by show hvF r g b M rc gc bc = _; unfold hvF; rw [if_neg (by simpa using e1), if_neg (by simpa using e2)]
      rw [this]; kernel_rfl
end
end Mine
end
section
open PySem PySem.W PySem.Calls PyProof.Rows PySem.Spec PySem.SeqAt PySem.SeqRoads2 PySem.MeetsSeq
set_option Elab.async false
set_option maxRecDepth 100000
set_option linter.unusedVariables false
namespace Mine
theorem lt6 {j : Nat} (h : j < 6) : j = 0 ∨ j = 1 ∨ j = 2 ∨ j = 3 ∨ j = 4 ∨ j = 5 := by (first | grind | omega)
theorem lt3 {j : Nat} (h : j < 3) : j = 0 ∨ j = 1 ∨ j = 2 := by (first | grind | omega)
theorem mulIF {a : Int} {x : UInt64} (h : small a = true) : binIF .Mult a x = some (.flt (Float64.mul (Float64.ofInt a) x)) := by
  unfold binIF; simp only [h, if_true]
theorem subFI {a : Int} {x : UInt64} (h : small a = true) : binFI .Sub x a = some (.flt (Float64.sub x (Float64.ofInt a))) := by
  unfold binFI; simp only [h, if_true]
theorem mulFI {a : Int} {x : UInt64} (h : small a = true) : binFI .Mult x a = some (.flt (Float64.mul x (Float64.ofInt a))) := by
  unfold binFI; simp only [h, if_true]
noncomputable def six (H : UInt64) : UInt64 := Float64.mul H 0x4018000000000000
noncomputable def fracF (H : UInt64) (I : Int) : UInt64 := Float64.sub (six H) (Float64.ofInt I)
noncomputable def one1 : UInt64 := 0x3ff0000000000000
/-- v * (1.0 - y) -/
noncomputable def vF (V : Int) (y : UInt64) : UInt64 := Float64.mul (Float64.ofInt V) (Float64.sub 0x3ff0000000000000 y)
noncomputable def outF (j : Nat) (V : Int) (p q t : UInt64) : List At := match j with
  | 0 => [.int V, .flt t, .flt p]
  | 1 => [.flt q, .int V, .flt p]
  | 2 => [.flt p, .int V, .flt t]
  | 3 => [.flt p, .flt q, .int V]
  | 4 => [.flt t, .flt p, .int V]
  | _ => [.int V, .flt p, .flt q]
noncomputable def uS (i : Nat) : Stmt := stN (bodyAt 28) i
theorem u_eq : bodyAt 28 = [.If (ifT (uS 0)) (ifB (uS 0)) [] (poS (uS 0)), aS (Str.ofString "i") (uS 1), aS (Str.ofString "f") (uS 2), aS (Str.ofString "p") (uS 3), aS (Str.ofString "q") (uS 4), aS (Str.ofString "t") (uS 5), aS (Str.ofString "i") (uS 6), uS 7, uS 8, uS 9, uS 10, uS 11, uS 12] := by kernel_rfl
noncomputable def g0 (H S : UInt64) (V : Int) : Rho := [(Str.ofString "h", .flt H), (Str.ofString "s", .flt S), (Str.ofString "v", .int V)]
noncomputable def g1 (H S : UInt64) (V I : Int) : Rho := g0 H S V ++ [(Str.ofString "i", .int I)]
noncomputable def g2 (H S : UInt64) (V I : Int) (f : UInt64) : Rho := g1 H S V I ++ [(Str.ofString "f", .flt f)]
noncomputable def g3 (H S : UInt64) (V I : Int) (f p : UInt64) : Rho := g2 H S V I f ++ [(Str.ofString "p", .flt p)]
noncomputable def g4 (H S : UInt64) (V I : Int) (f p q : UInt64) : Rho := g3 H S V I f p ++ [(Str.ofString "q", .flt q)]
noncomputable def g5 (H S : UInt64) (V I : Int) (f p q t : UInt64) : Rho := g4 H S V I f p q ++ [(Str.ofString "t", .flt t)]
section
variable (phi : Addr → List D → Option D) (H S f p q t : UInt64) (V I : Int)
theorem u_0 : (evs phi 8).t (namesAt 28) (g0 H S V) (ifT (uS 0)) = some (Float64.cmp S 0 == some Ordering.eq) := by kernel_rfl
theorem u_1 : (evs phi 8).e (namesAt 28) (g0 H S V) (asE (uS 1)) = truncD (six H) := by kernel_rfl
theorem u_2 : (evs phi 8).e (namesAt 28) (g1 H S V I) (asE (uS 2)) = binFI .Sub (six H) I := by kernel_rfl
theorem u_3 : (evs phi 8).e (namesAt 28) (g2 H S V I f) (asE (uS 3)) = binIF .Mult V (Float64.sub 0x3ff0000000000000 S) := by kernel_rfl
theorem u_4 : (evs phi 8).e (namesAt 28) (g3 H S V I f p) (asE (uS 4)) = binIF .Mult V (Float64.sub 0x3ff0000000000000 (Float64.mul S f)) := by kernel_rfl
theorem u_5 : (evs phi 8).e (namesAt 28) (g4 H S V I f p q) (asE (uS 5)) = binIF .Mult V (Float64.sub 0x3ff0000000000000 (Float64.mul S (Float64.sub 0x3ff0000000000000 f))) := by kernel_rfl
theorem u_6 : (evs phi 8).e (namesAt 28) (g5 H S V I f p q t) (asE (uS 6)) = some (.int (I.fmod 6)) := by kernel_rfl
theorem u_r0 : runs (evs phi 8) (namesAt 28) 4 [uS 7, uS 8, uS 9, uS 10, uS 11, uS 12] (g5 H S V 0 f p q t, none) = some ((g5 H S V 0 f p q t, none), .ret (.tup (outF 0 V p q t))) := by kernel_rfl
theorem u_r1 : runs (evs phi 8) (namesAt 28) 4 [uS 7, uS 8, uS 9, uS 10, uS 11, uS 12] (g5 H S V 1 f p q t, none) = some ((g5 H S V 1 f p q t, none), .ret (.tup (outF 1 V p q t))) := by kernel_rfl
theorem u_r2 : runs (evs phi 8) (namesAt 28) 4 [uS 7, uS 8, uS 9, uS 10, uS 11, uS 12] (g5 H S V 2 f p q t, none) = some ((g5 H S V 2 f p q t, none), .ret (.tup (outF 2 V p q t))) := by kernel_rfl
theorem u_r3 : runs (evs phi 8) (namesAt 28) 4 [uS 7, uS 8, uS 9, uS 10, uS 11, uS 12] (g5 H S V 3 f p q t, none) = some ((g5 H S V 3 f p q t, none), .ret (.tup (outF 3 V p q t))) := by kernel_rfl
theorem u_r4 : runs (evs phi 8) (namesAt 28) 4 [uS 7, uS 8, uS 9, uS 10, uS 11, uS 12] (g5 H S V 4 f p q t, none) = some ((g5 H S V 4 f p q t, none), .ret (.tup (outF 4 V p q t))) := by kernel_rfl
theorem u_r5 : runs (evs phi 8) (namesAt 28) 4 [uS 7, uS 8, uS 9, uS 10, uS 11, uS 12] (g5 H S V 5 f p q t, none) = some ((g5 H S V 5 f p q t, none), .ret (.tup (outF 5 V p q t))) := by kernel_rfl
theorem u_r (j : Nat) (hj : j < 6) : runs (evs phi 8) (namesAt 28) 4 [uS 7, uS 8, uS 9, uS 10, uS 11, uS 12] (g5 H S V j f p q t, none) = some ((g5 H S V j f p q t, none), .ret (.tup (outF j V p q t))) := by
  rcases lt6 hj with rfl | rfl | rfl | rfl | rfl | rfl
  · exact u_r0 ..
  · exact u_r1 ..
  · exact u_r2 ..
  · exact u_r3 ..
  · exact u_r4 ..
  · exact u_r5 ..
end
section
variable {W : Wd} {k : Nat} {P : Params}
theorem rgb_call {H S : UInt64} {V I : Int} {j : Nat} (h8' : 8 ≤ k) (X : (hd.heap_39 P).In W.base) (B : BaseOK W) (FO : FlagsOK W) (hS : (Float64.cmp S 0 == some Ordering.eq) = false) (hI : truncD (six H) = some (.int I)) (sI : small I = true) (sV : small V = true) (hj : I.fmod 6 = j) (hj6 : j < 6) :
    CallOK W (k + 1) 28 [.flt H, .flt S, .int V] (.tup (outF j V (vF V S) (vF V (Float64.mul S (fracF H I))) (vF V (Float64.mul S (Float64.sub 0x3ff0000000000000 (fracF H I)))))) := by
  have hphi : PhiOK W k (fun _ _ => none) := fun f ds d h => nomatch h
  have sd := evs_sound h8' B FO hphi 8
  let f := fracF H I
  let p := vF V S
  let q := vF V (Float64.mul S f)
  let t := vF V (Float64.mul S (Float64.sub 0x3ff0000000000000 f))
  refine fn_call B (fn28 X) (by first | kernel_rfl | decide +kernel) rfl rfl (st' := (g5 H S V j f p q t, none)) ?_
  rw [u_eq]
  refine ex_cons (ex_if (c := false) (fun env F => sd.t (ρ := g0 H S V) (by rw [u_0, hS]) (kindF F)) ex_nil) ?_
  refine ex_cons (ex_aS (ρ := g0 H S V) (ρ' := g1 H S V I) sd (by rw [u_1]; exact hI) (by kernel_rfl) (by first | kernel_rfl | decide +kernel) (by kernel_rfl)) ?_
  refine ex_cons (ex_aS (ρ' := g2 H S V I f) sd (by rw [u_2]; exact subFI sI) (by kernel_rfl) (by first | kernel_rfl | decide +kernel) (by kernel_rfl)) ?_
  refine ex_cons (ex_aS (ρ' := g3 H S V I f p) sd (by rw [u_3]; exact mulIF sV) (by kernel_rfl) (by first | kernel_rfl | decide +kernel) (by kernel_rfl)) ?_
  refine ex_cons (ex_aS (ρ' := g4 H S V I f p q) sd (by rw [u_4]; exact mulIF sV) (by kernel_rfl) (by first | kernel_rfl | decide +kernel) (by kernel_rfl)) ?_
  refine ex_cons (ex_aS (ρ' := g5 H S V I f p q t) sd (by rw [u_5]; exact mulIF sV) (by kernel_rfl) (by first | kernel_rfl | decide +kernel) (by kernel_rfl)) ?_
  refine ex_cons (ex_aS (ρ' := g5 H S V j f p q t) sd (by rw [u_6, hj]) (by kernel_rfl) (by first | kernel_rfl | decide +kernel) (by kernel_rfl)) ?_
  exact runs_sound B sd 4 (u_r _ H S f p q t V j hj6)
end
end Mine
end
section
open PySem PySem.W PySem.Calls PyProof.Rows PySem.Spec PySem.SeqAt PySem.SeqRoads2 PySem.MeetsSeq
set_option Elab.async false
set_option maxRecDepth 100000
set_option linter.unusedVariables false
namespace Mine
theorem mul_eq {a b : Int} (h : small a = true ∨ small b = true) : binI .Mult a b = some (.int (a * b)) := by
  show (if (small a || small b) = true then some (D.int (a * b)) else none) = _
  rw [if_pos (by rcases h with h | h <;> simp [h])]
theorem mod_eq {a b : Int} (h : b ≠ 0) : binI .Mod a b = some (.int (a.fmod b)) := by
  show (if (b != 0) = true then some (D.int (a.fmod b)) else none) = _
  rw [if_pos (by simpa using h)]
noncomputable def coE (e : Expr) : Expr := exN e 0
noncomputable def coN (e : Expr) : Names := (exV e).2.2.2.names
theorem compD_map {F : At → Option D} {T : At → Option Bool} {g : Int → At} : ∀ {l : List Int}, (∀ c ∈ l, F (.int c) = some (.at (g c))) → (∀ c ∈ l, T (.int c) = some true) → compD F T (l.map .int) = some (l.map g)
  | [], _, _ => rfl
  | c :: l, hF, hT => by
    simp only [List.map_cons, compD, hT c (.head _), hF c (.head _), compD_map (l := l) (fun c hc => hF c (.tail _ hc)) fun c hc => hT c (.tail _ hc), Option.map_some]
    rfl
theorem intsOf_map : ∀ l : List Int, intsOf (l.map .int) = some l
  | [] => rfl
  | c :: l => by
    show ((some c).bind fun i => (intsOf (l.map .int)).map (i :: ·)) = _
    rw [intsOf_map l]; rfl
theorem meth_count {as : List At} {ns : List Int} {n : Int} (h : intsOf as = some ns) : methD (Str.ofString "count") (.lst as) [.int n] = some (.int (ns.count n : Nat)) := by
  show ((intsOf as).bind fun ns => if (Str.ofString "count" == Str.ofString "count") = true then some (D.int (ns.count n : Nat)) else none) = _
  rw [h]
  show (if (Str.ofString "count" == Str.ofString "count") = true then some (D.int (ns.count n : Nat)) else none) = _
  rw [if_pos (beq_self_eq_true _)]
noncomputable def qS (i : Nat) : Stmt := stN (bodyAt 95) i
noncomputable def q2L : Expr := (caA (asE (qS 2))).getD 0 xE
noncomputable def q3C : Expr := biR (reE (qS 3))
noncomputable def q3L : Expr := atO (caF q3C)
noncomputable def q3A : Expr := (caA q3C).getD 0 xE
theorem q_eq : bodyAt 95 = [aS (Str.ofString "cubes") (qS 0), aS (Str.ofString "seconds") (qS 1), .Assign [.Name (Str.ofString "points") (poE (asT (qS 2)))] (.Call (.Name (Str.ofString "sum") (poE (caF (asE (qS 2))))) [q2L] [] (poE (asE (qS 2)))) (poS (qS 2)),
  .Return (some (.BinOp (biL (reE (qS 3))) .Add (.Call (.Attribute q3L (Str.ofString "count") (atP (caF q3C))) [q3A] [] (poE q3C)) (biP (reE (qS 3))))) (poS (qS 3))] := by kernel_rfl
noncomputable def q0 (u v w p : Int) : Rho := [(Str.ofString "u", .int u), (Str.ofString "v", .int v), (Str.ofString "w", .int w), (Str.ofString "prime", .int p)]
noncomputable def q1 (u v w p : Int) (cs : List At) : Rho := q0 u v w p ++ [(Str.ofString "cubes", .lst cs)]
noncomputable def q2 (u v w p : Int) (cs ss : List At) : Rho := q1 u v w p cs ++ [(Str.ofString "seconds", .lst ss)]
noncomputable def q3 (u v w p : Int) (cs ss : List At) (n : Int) : Rho := q2 u v w p cs ss ++ [(Str.ofString "points", .int n)]
noncomputable def ar1 (x : Option D) : Option (List D) := x.bind fun d => (some []).map (d :: ·)
noncomputable def me1 (a : D) (name : Str) (x : Option (List D)) : Option D := x.bind fun ds => methD name a ds
noncomputable def fE (phi : Addr → List D → Option D) (n : Nat) (ρ : Rho) (e : Expr) (a : At) : Option D := (evs phi n).e (coN e) ((Str.ofString "cube", .at a) :: innerOf (coN e) ρ) (coE e)
noncomputable def lc1 (as : List At) (x : Option (List At)) : Option D := (if as.length ≤ 100000 then x else none).bind fun bs => some (.lst bs)
section
variable (phi : Addr → List D → Option D) (u v w p c n : Int) (cs ss : List At)
theorem q_s0 : swE (namesAt 95) (Str.ofString "cubes") (poE (asT (qS 0))) (asE (qS 0)) = some true := by first | kernel_rfl | decide +kernel
theorem q_s1 : swE (namesAt 95) (Str.ofString "seconds") (poE (asT (qS 1))) (asE (qS 1)) = some false := by first | kernel_rfl | decide +kernel
theorem q_1 : (evs phi 9).e (namesAt 95) (q1 u v w p cs) (asE (qS 1)) = lc1 cs (compD (fE phi 8 (q1 u v w p cs) (asE (qS 1))) (fun _ => some true) cs) := by kernel_rfl
theorem q_1f : fE phi 8 (q1 u v w p cs) (asE (qS 1)) (.int c) = bin2 .Mod (binI .Mult v c) (some (.int p)) := by kernel_rfl
theorem q_2 : (evs phi 9).e (namesAt 95) (q2 u v w p cs ss) q2L = lc1 cs (compD (fE phi 8 (q2 u v w p cs ss) q2L) (fun _ => some true) cs) := by kernel_rfl
theorem q_2f : fE phi 8 (q2 u v w p cs ss) q2L (.int c) = me1 (.lst ss) (Str.ofString "count") (ar1 (bin2 .Mod (bin2 .Sub (some (.int (-w))) (binI .Mult u c)) (some (.int p)))) := by kernel_rfl
theorem q_3 : (evs phi 9).e (namesAt 95) (q3 u v w p cs ss n) q3L = lc1 cs (compD (fE phi 8 (q3 u v w p cs ss n) q3L) (fun _ => some true) cs) := by kernel_rfl
theorem q_3f : fE phi 8 (q3 u v w p cs ss n) q3L (.int c) = bin2 .Mod (binI .Mult u c) (some (.int p)) := by kernel_rfl
theorem q_3a : (evs phi 9).e (namesAt 95) (q3 u v w p cs ss n) q3A = binI .Mod (-v) p := by kernel_rfl
theorem q_3l : (evs phi 9).e (namesAt 95) (q3 u v w p cs ss n) (biL (reE (qS 3))) = some (.int n) := by kernel_rfl
end
noncomputable def cosetI (u : Int) (cs : List Int) (p : Int) : List Int := cs.map fun c => (u * c).fmod p
theorem coset_map (u : Int) (cs : List Int) (p : Int) : (cosetI u cs p).map At.int = cs.map fun c => At.int ((u * c).fmod p) := by
  unfold cosetI; rw [List.map_map]; rfl
noncomputable def cntI (u v w : Int) (cs : List Int) (p : Int) : List Int := cs.map fun c => (((cosetI v cs p).count ((-w - u * c).fmod p) : Nat) : Int)
noncomputable def ptsI (u v w : Int) (cs : List Int) (p : Int) : Int := (cntI u v w cs p).sum + (((cosetI u cs p).count ((-v).fmod p) : Nat) : Int)
section
variable {W : Wd} {k : Nat} {P : Params}
theorem mm_eq {v c p : Int} (hv : small v = true) (hp : p ≠ 0) : bin2 .Mod (binI .Mult v c) (some (.int p)) = some (.int ((v * c).fmod p)) := by
  rw [mul_eq (.inl hv)]; exact mod_eq hp
theorem lc1_eq {l : List Int} {bs : List At} {x : Option (List At)} (hl : l.length ≤ 100000) (h : x = some bs) : lc1 (l.map .int) x = some (.lst bs) := by
  unfold lc1; rw [List.length_map, if_pos hl, h]; rfl
theorem pts_call {u v w p : Int} {cs : List Int} (h8' : 8 ≤ k) (X : (hd.heap_39 P).In W.base) (B : BaseOK W) (FO : FlagsOK W) (su : small u = true) (sv : small v = true) (hp : p ≠ 0) (hl : cs.length ≤ 100000)
    (hc : compV (evs (fun _ _ => none) 9) (namesAt 95) (q0 u v w p) (asE (qS 0)) = some (cs.map .int)) :
    CallOK W (k + 1) 95 [.int u, .int v, .int w, .int p] (.int (ptsI u v w cs p)) := by
  have hphi : PhiOK W k (fun _ _ => none) := fun f ds d h => nomatch h
  have sd := evs_sound h8' B FO hphi 9
  have e1 : (evs (fun _ _ => none) 9).e (namesAt 95) (q1 u v w p (cs.map .int)) (asE (qS 1)) = some (.lst ((cosetI v cs p).map .int)) := by
    rw [q_1]
    refine lc1_eq hl ?_
    rw [coset_map v]
    exact compD_map (fun c _ => by rw [q_1f]; exact mm_eq sv hp) fun c _ => rfl
  have e2 : (evs (fun _ _ => none) 9).e (namesAt 95) (q2 u v w p (cs.map .int) ((cosetI v cs p).map .int)) q2L = some (.lst ((cntI u v w cs p).map .int)) := by
    rw [q_2]
    refine lc1_eq hl ?_
    unfold cntI
    rw [List.map_map]
    refine compD_map (fun c _ => ?_) fun c _ => rfl
    rw [q_2f, mul_eq (.inl su)]
    show me1 _ _ (ar1 (binI .Mod (-w - u * c) p)) = _
    rw [mod_eq hp]
    show methD (Str.ofString "count") (.lst ((cosetI v cs p).map .int)) [.int ((-w - u * c).fmod p)] = _
    exact meth_count (intsOf_map _)
  have e3 : ∀ n, (evs (fun _ _ => none) 9).e (namesAt 95) (q3 u v w p (cs.map .int) ((cosetI v cs p).map .int) n) q3L = some (.lst ((cosetI u cs p).map .int)) := fun n => by
    rw [q_3]
    refine lc1_eq hl ?_
    rw [coset_map u]
    exact compD_map (fun c _ => by rw [q_3f]; exact mm_eq su hp) fun c _ => rfl
  refine fn_call B (fn95 X) (by first | kernel_rfl | decide +kernel) rfl rfl (st' := (q3 u v w p (cs.map .int) ((cosetI v cs p).map .int) (cntI u v w cs p).sum, none)) ?_
  rw [q_eq]
  refine ex_cons (st₁ := (q1 u v w p (cs.map .int), none)) (compV_sound sd hc q_s0 (by first | kernel_rfl | decide +kernel)) ?_
  refine ex_cons (st₁ := (q2 u v w p (cs.map .int) ((cosetI v cs p).map .int), none)) (ex_assign (ρ := q1 u v w p (cs.map .int)) (fun env F => sd.e e1 (kindF F)) (fun env F => swE_eq F q_s1) (by first | kernel_rfl | decide +kernel) rfl (.inl rfl)) ?_
  refine ex_cons (st₁ := (q3 u v w p (cs.map .int) ((cosetI v cs p).map .int) (cntI u v w cs p).sum, none)) (ex_assign (ρ := q2 u v w p (cs.map .int) ((cosetI v cs p).map .int)) (d := .int (cntI u v w cs p).sum) (fun env F => ev_callB B (kgx F _ (by first | kernel_rfl | decide +kernel)) (show GL.lookup (Str.ofString "sum") = some (.bi "sum") from by first | kernel_rfl | decide +kernel) (.cons (by kernel_rfl) (sd.e e2 (kindF F)) .nil) (call_sum (intsOf_map _)))
    (fun env F => swaps_plain rfl) (by first | kernel_rfl | decide +kernel) rfl (.inl rfl)) ?_
  have hm : methD (Str.ofString "count") (.lst ((cosetI u cs p).map .int)) [.int ((-v).fmod p)] = some (.int (((cosetI u cs p).count ((-v).fmod p) : Nat) : Int)) := by
    exact meth_count (intsOf_map _)
  obtain ⟨id, hid, ho⟩ := meth_sound (W := W) (k := k) FO hm
  exact ex_stop (fun e => nomatch e) (ex_return (d := .int (ptsI u v w cs p)) fun env F => ev_bin (sd.e (q_3l ..) (kindF F)) (ev_meth (sd.e (e3 _) (kindF F)) (by kernel_rfl) (by kernel_rfl) (by show 1 < 30; decide) hid (.cons (by kernel_rfl) (sd.e (by rw [q_3a]; exact mod_eq hp) (kindF F)) .nil) ho) (bin_sound rfl))
end
end Mine
end
section
open PySem PySem.W PySem.Calls PyProof.Rows PySem.Spec PySem.SeqAt PySem.SeqRoads2 PySem.MeetsSeq
set_option Elab.async false
set_option maxRecDepth 100000
set_option linter.unusedVariables false
namespace Mine
section
variable {W : Wd} {P : Params}
theorem fn100 (X : (hd.heap_39 P).In W.base) : FnIs W 100 [Str.ofString "script"] (namesAt 100) (bodyAt 100) := ⟨⟨ob P 100, fdAt P 100, X _ _ (by kernel_rfl), by kernel_rfl, codeRec_of X (by kernel_rfl), by kernel_rfl, fun vals hv => by
    obtain ⟨v0, rfl⟩ := vals1 hv; kernel_rfl, by kernel_rfl, by kernel_rfl, by kernel_rfl, by kernel_rfl, by kernel_rfl, by kernel_rfl, by kernel_rfl⟩⟩
end
noncomputable def w (i : Nat) : Stmt := stN (bodyAt 100) i
noncomputable def coS (e : Expr) : Scope := (exV e).2.2.2
noncomputable def coP (e : Expr) : Pos := poE e
noncomputable def coT (e : Expr) : Expr := exN e 1
noncomputable def coI (e : Expr) : Expr := exN e 2
noncomputable def w1 : Expr := asE (w 1)
noncomputable def wB (i : Nat) : Stmt := stN (foB (w 14)) i
/-- a test that leaves the law with False -/
noncomputable def ifS (i : Nat) : Stmt := .If (ifT (w i)) (ifB (w i)) [] (poS (w i))
theorem w_eq : bodyAt 100 = [.Assign [.Name (Str.ofString "prime") (poE (asT (w 0)))] (.Subscript (suO (asE (w 0))) (suI (asE (w 0))) (poE (asE (w 0)))) (poS (w 0)),
  .Assign [.Name (Str.ofString "drawn") (poE (asT (w 1)))] (.ListComp (coE w1) [⟨.Tuple [.Name (Str.ofString "k") (poE ((tuE (coT w1)).getD 0 xE)), .Name (Str.ofString "start") (poE ((tuE (coT w1)).getD 1 xE))] (tuK (coT w1)) (tuP (coT w1)), .Call (.Name (Str.ofString "enumerate") (poE (caF (coI w1)))) [pA (coI w1) 0] [] (poE (coI w1)), [], 0⟩] (coS w1) (coP w1)) (poS (w 1)),
  aS (Str.ofString "weights") (w 2), w 3, w 4, aS (Str.ofString "other") (w 5), w 6, w 7, aS (Str.ofString "mixture") (w 8), w 9, w 10,
  .Assign [.Tuple (tuE (asT (w 11))) (tuK (asT (w 11))) (tuP (asT (w 11)))] (pCall (Str.ofString "rgb_to_hsv") (asE (w 11)) [pA (asE (w 11)) 0, pA (asE (w 11)) 1, pA (asE (w 11)) 2]) (poS (w 11)),
  ifS 12, w 13, .For (.Name (Str.ofString "weight") (poE (foT (w 14)))) (foI (w 14)) [.Assign [.Tuple (tuE (asT (wB 0))) (tuK (asT (wB 0))) (tuP (asT (wB 0)))] (asE (wB 0)) (poS (wB 0)), wB 1] [] (foP (w 14)), aS (Str.ofString "wish") (w 15), ifS 16,
  .Assign [.Name (Str.ofString "turned") (poE (asT (w 17)))] (pCall (Str.ofString "hsv_to_rgb") (asE (w 17)) [pA (asE (w 17)) 0, pA (asE (w 17)) 1, pA (asE (w 17)) 2]) (poS (w 17)), ifS 18, ifS 19, .Return (some (reE (w 20))) (poS (w 20))] := by kernel_rfl

set_option genInjectivity false in
/-- what a prime and a parity decide -/
structure Cs where
  p : Int
  par : Nat
  o : Int
  cs : List Int
  rs : List Int
  m0 : List Nat
  m1 : List Nat
  m2 : List Nat
  p0 : Str
  p1 : Str
  p2 : Str
  q : Int
  r : Int
  c : List Int
  a : Int
  b : Int
  d : Int
  cl : List Nat
  h : UInt64
noncomputable def Cs.pls (K : Cs) : List At := [.str K.p0, .str K.p1, .str K.p2]
noncomputable def v0 (ns : List Int) : Rho := [(Str.ofString "script", .lst (ns.map .int))]
noncomputable def v1 (ns : List Int) (p : Int) : Rho := v0 ns ++ [(Str.ofString "prime", .int p)]
noncomputable def v2 (ns : List Int) (p : Int) (dr : List At) : Rho := v1 ns p ++ [(Str.ofString "drawn", .lst dr)]
noncomputable def v3 (ns : List Int) (p : Int) (dr ws : List At) : Rho := v2 ns p dr ++ [(Str.ofString "weights", .lst ws)]
noncomputable def v5 (K : Cs) (ns : List Int) (dr ws : List At) : Rho := v3 ns K.p dr ws ++ [(Str.ofString "cubes", .lst (K.cs.map .int)), (Str.ofString "reds", .lst (K.rs.map .int))]
noncomputable def v6 (K : Cs) (ns : List Int) (dr ws : List At) : Rho := v5 K ns dr ws ++ [(Str.ofString "other", .int K.o)]
noncomputable def v8 (K : Cs) (ns : List Int) (dr ws : List At) : Rho := v6 K ns dr ws ++ [(Str.ofString "factor", .int (K.o * K.o))]
noncomputable def v9 (K : Cs) (ns : List Int) (dr ws : List At) (m : List At) : Rho := v8 K ns dr ws ++ [(Str.ofString "planes", .lst K.pls), (Str.ofString "mixture", .lst m)]

noncomputable def cb1 (phi : Addr → List D → Option D) (g : Option D) (x : Option (List D)) : Option D := g.bind fun d => x.bind fun ds => callD phi d ds
noncomputable def slc (as : List At) (l u c : Option Int) : Option D := if (c != some 0 && decide (as.length ≤ 100000)) = true then some (.lst (pickA as l u c)) else none
noncomputable def it1 (x : Option D) (b : D) : Option D := x.bind fun a => itemD a b
noncomputable def lcV (dr : List At) (x : Option (List At)) : Option (List At) := if dr.length ≤ 100000 then x else none
noncomputable def ls1 (x : Option D) : Option D := ((ar1 x).bind atomsOf).bind fun as => if decide (as.length ≤ 100000) = true then some (.lst as) else none
noncomputable def fD (phi : Addr → List D → Option D) (ns : List Int) (p k st : Int) : Option D := (evs phi 9).e (coS w1).names ((Str.ofString "start", .int st) :: (Str.ofString "k", .int k) :: innerOf (coS w1).names (v1 ns p)) (coE w1)
noncomputable def fW (phi : Addr → List D → Option D) (ns : List Int) (p : Int) (dr : List At) (a : At) : Option D := (evs phi 9).e (coN (asE (w 2))) ((Str.ofString "x", .at a) :: innerOf (coN (asE (w 2))) (v2 ns p dr)) (coE (asE (w 2)))
section
variable (phi : Addr → List D → Option D) (K : Cs) (ns : List Int) (p k st x : Int) (dr ws : List At)
theorem w_0l : (evs phi 9).e (namesAt 100) (v0 ns) (suO (asE (w 0))) = some (.lst [.int 7, .int 13, .int 19, .int 31]) := by kernel_rfl
theorem w_0i : (evs phi 9).e (namesAt 100) (v0 ns) (suI (asE (w 0))) = bin2 .Mod (bin2 .Add (callB "sum" [.lst (ns.map .int)]) (callB "len" [.lst (ns.map .int)])) (some (.int 4)) := by kernel_rfl
theorem w_1s : swE (namesAt 100) (Str.ofString "drawn") (poE (asT (w 1))) (asE (w 1)) = some true := by first | kernel_rfl | decide +kernel
theorem w_1a : (evs phi 9).e (namesAt 100) (v1 ns p) (pA (coI w1) 0) = some (.lst [.int 1, .int 0, .int 0]) := by kernel_rfl
theorem w_1f : fD phi ns p k st = bin2 .Mod (bin2 .Add (some (.int st)) (cb1 phi (some (.bi "sum")) (ar1 (slc (ns.map .int) (some k) none (some 3))))) (some (.int 1000000000000000000)) := by kernel_rfl
theorem w_2s : swE (namesAt 100) (Str.ofString "weights") (poE (asT (w 2))) (asE (w 2)) = some true := by first | kernel_rfl | decide +kernel
theorem w_2 : compV (evs phi 9) (namesAt 100) (v2 ns p dr) (asE (w 2)) = lcV dr (compD (fW phi ns p dr) (fun _ => some true) dr) := by kernel_rfl
theorem w_2f : fW phi ns p dr (.int x) = bin2 .Add (some (.int 1)) (it1 (phi 70 [.int x, .int (p - 1)]) (.int 1)) := by kernel_rfl
theorem w_5 : (evs phi 9).e (namesAt 100) (v6 K ns dr ws) (asE (w 8)) = bin2 .Mult (ls1 (bin2 .Mod (bin2 .FloorDiv (callB "sum" [.lst (ns.map .int)]) (some (.int 4))) (some (.int 100)))) (some (.int 3)) := by kernel_rfl
end
end Mine
end
section
open PySem PySem.W PySem.Calls PyProof.Rows PySem.Spec PySem.SeqAt PySem.SeqRoads2 PySem.MeetsSeq
set_option Elab.async false
set_option maxRecDepth 100000
set_option linter.unusedVariables false
namespace Mine
theorem cb_sumL {as : List At} {ms : List Int} (h : intsOf as = some ms) : callB "sum" [.lst as] = some (.int ms.sum) := by
  have e : callB "sum" [.lst as] = (intsOf as).map fun ns => D.int ns.sum := by kernel_rfl
  rw [e, h]; rfl
theorem cb_sum (ns : List Int) : callB "sum" [.lst (ns.map .int)] = some (.int ns.sum) := cb_sumL (intsOf_map ns)
theorem cb_len {ns : List Int} (h : ns.length ≤ 100000) : callB "len" [.lst (ns.map .int)] = some (.int ns.length) := by
  have e : callB "len" [.lst (ns.map .int)] = (if decide ((ns.map At.int).length ≤ 100000) = true then some (D.int (ns.map At.int).length) else none) := by kernel_rfl
  rw [e, List.length_map, if_pos (decide_eq_true h)]
theorem intsOf_pick : ∀ (l : List Nat) (as : List At), (∀ a ∈ as, ∃ i, a = At.int i) → ∃ ms, intsOf (l.filterMap (as[·]?)) = some ms
  | [], as, h => ⟨[], rfl⟩
  | i :: l, as, h => by
    obtain ⟨ms, hm⟩ := intsOf_pick l as h
    cases e : as[i]? with
    | none => rw [List.filterMap_cons_none e]; exact ⟨ms, hm⟩
    | some a =>
      obtain ⟨z, rfl⟩ := h a (List.mem_of_getElem? e)
      rw [List.filterMap_cons_some e]
      exact ⟨z :: ms, by show ((some z).bind fun i => (intsOf _).map (i :: ·)) = _; rw [hm]; rfl⟩
theorem slc_eq {ns : List Int} {l u c : Option Int} (hc : c ≠ some 0) (h : ns.length ≤ 100000) : slc (ns.map .int) l u c = some (.lst (pickA (ns.map .int) l u c)) := by
  unfold slc
  rw [if_pos]
  rw [List.length_map]
  exact Bool.and_eq_true_iff.mpr ⟨bne_iff_ne.mpr hc, decide_eq_true h⟩
theorem sum_slice (phi : Addr → List D → Option D) {ns : List Int} (k : Int) (h : ns.length ≤ 100000) : ∃ m : Int, cb1 phi (some (.bi "sum")) (ar1 (slc (ns.map .int) (some k) none (some 3))) = some (.int m) := by
  rw [slc_eq (by simp) h]
  obtain ⟨ms, hm⟩ := intsOf_pick (sliceRange (sliceBounds (some k) none (some 3) (ns.map At.int).length).1 (sliceBounds (some k) none (some 3) (ns.map At.int).length).2.1 (sliceBounds (some k) none (some 3) (ns.map At.int).length).2.2) (ns.map .int) (fun a ha => by
    obtain ⟨i, _, rfl⟩ := List.mem_map.mp ha; exact ⟨i, rfl⟩)
  refine ⟨ms.sum, ?_⟩
  exact cb_sumL hm
theorem draw_eq (phi : Addr → List D → Option D) {ns : List Int} (p k st : Int) (h : ns.length ≤ 100000) : ∃ x : Int, 0 ≤ x ∧ x < 1000000000000000000 ∧ fD phi ns p k st = some (.int x) := by
  obtain ⟨m, hm⟩ := sum_slice phi (ns := ns) k h
  refine ⟨(st + m).fmod 1000000000000000000, Int.fmod_nonneg_of_pos _ (by (first | grind | omega)), Int.fmod_lt_of_pos _ (by (first | grind | omega)), ?_⟩
  rw [w_1f, hm]
  exact mod_eq (b := 1000000000000000000) (by decide)
theorem w_1n : ∀ y ∈ (coS w1).names, y.2 ≠ .cell := by
  have h : (coS w1).names.all (fun y => y.2 != .cell) = true := by first | kernel_rfl | decide +kernel
  intro y hy
  have := List.all_eq_true.mp h y hy
  simpa using this
theorem w_1l (ns : List Int) (p : Int) : compLook (coS w1).names (namesAt 100) (coS w1).kind (Str.ofString "k") (v1 ns p) = true := by kernel_rfl
theorem phiD_70 {x p : Int} (h0 : 0 ≤ x) (h1 : x < 1000000000000000000) (hp : 1 ≤ p) (hp2 : p ≤ 1000) : phiD 70 [.int x, .int p] = some (.tup [.int (x.fdiv p), .int (x.fmod p)]) := by
  show (if (decide (1 ≤ p) && decide (p ≤ 1000) && decide (x.natAbs < 2 ^ 62)) = true then some (D.tup [.int (x.fdiv p), .int (x.fmod p)]) else none) = _
  rw [if_pos]
  simp only [Bool.and_eq_true, decide_eq_true_eq]
  exact ⟨⟨hp, hp2⟩, by (first | grind | omega)⟩
noncomputable def wOf (p x : Int) : Int := 1 + x.fmod (p - 1)
section
variable {W : Wd} {k : Nat} {P : Params}
theorem w_head (h8' : 8 ≤ k) (X : (hd.heap_39 P).In W.base) (B : BaseOK W) (FO : FlagsOK W) (PO : PhiOK W k phiD) {ns : List Int} (hl : ns.length ≤ 63) : ∃ p x0 x1 x2 : Int, (p = 7 ∨ p = 13 ∨ p = 19 ∨ p = 31) ∧
    ∀ c st' fl, ExL W k (namesAt 100) c (v3 ns p [.int x0, .int x1, .int x2] [.int (wOf p x0), .int (wOf p x1), .int (wOf p x2)], none) st' fl → ExL W k (namesAt 100) (.Assign [.Name (Str.ofString "prime") (poE (asT (w 0)))] (.Subscript (suO (asE (w 0))) (suI (asE (w 0))) (poE (asE (w 0)))) (poS (w 0)) ::
  .Assign [.Name (Str.ofString "drawn") (poE (asT (w 1)))] (.ListComp (coE w1) [⟨.Tuple [.Name (Str.ofString "k") (poE ((tuE (coT w1)).getD 0 xE)), .Name (Str.ofString "start") (poE ((tuE (coT w1)).getD 1 xE))] (tuK (coT w1)) (tuP (coT w1)), .Call (.Name (Str.ofString "enumerate") (poE (caF (coI w1)))) [pA (coI w1) 0] [] (poE (coI w1)), [], 0⟩] (coS w1) (coP w1)) (poS (w 1)) ::
  aS (Str.ofString "weights") (w 2) :: c) (v0 ns, none) st' fl := by
  have sd := evs_sound h8' B FO PO 9
  have hl' : ns.length ≤ 100000 := by (first | grind | omega)
  obtain ⟨i, hi0, hi4, hi⟩ : ∃ i : Int, 0 ≤ i ∧ i < 4 ∧ (evs phiD 9).e (namesAt 100) (v0 ns) (suI (asE (w 0))) = some (.int i) := by
    refine ⟨(ns.sum + ns.length).fmod 4, Int.fmod_nonneg_of_pos _ (by (first | grind | omega)), Int.fmod_lt_of_pos _ (by (first | grind | omega)), ?_⟩
    rw [w_0i, cb_sum, cb_len hl']
    exact mod_eq (b := 4) (by decide)
  obtain ⟨p, hp, hit⟩ : ∃ p : Int, (p = 7 ∨ p = 13 ∨ p = 19 ∨ p = 31) ∧ itemD (.lst [.int 7, .int 13, .int 19, .int 31]) (.int i) = some (.int p) := by
    have : i = 0 ∨ i = 1 ∨ i = 2 ∨ i = 3 := by (first | grind | omega)
    rcases this with rfl | rfl | rfl | rfl
    · exact ⟨7, .inl rfl, rfl⟩
    · exact ⟨13, .inr (.inl rfl), rfl⟩
    · exact ⟨19, .inr (.inr (.inl rfl)), rfl⟩
    · exact ⟨31, .inr (.inr (.inr rfl)), rfl⟩
  obtain ⟨x0, a0, b0, e0⟩ := draw_eq phiD p 0 1 hl'
  obtain ⟨x1, a1, b1, e1⟩ := draw_eq phiD p 1 0 hl'
  obtain ⟨x2, a2, b2, e2⟩ := draw_eq phiD p 2 0 hl'
  refine ⟨p, x0, x1, x2, hp, fun c st' fl hc => ?_⟩
  refine ex_cons (st₁ := (v1 ns p, none)) (ex_assign (ρ := v0 ns) (d := .int p) (fun env F => ev_sub (sd.e (w_0l ..) (kindF F)) (sd.e hi (kindF F)) (item_sound (by kernel_rfl) hit)) (fun env F => swaps_plain rfl) (by first | kernel_rfl | decide +kernel) rfl (.inl rfl)) ?_
  refine ex_cons (st₁ := (v2 ns p [.int x0, .int x1, .int x2], none)) ?_ ?_
  · have hsw := w_1s
    rw [show asE (w 1) = .ListComp (coE w1) [⟨.Tuple [.Name (Str.ofString "k") (poE ((tuE (coT w1)).getD 0 xE)), .Name (Str.ofString "start") (poE ((tuE (coT w1)).getD 1 xE))] (tuK (coT w1)) (tuP (coT w1)), .Call (.Name (Str.ofString "enumerate") (poE (caF (coI w1)))) [pA (coI w1) 0] [] (poE (coI w1)), [], 0⟩] (coS w1) (coP w1) from by kernel_rfl] at hsw
    exact ex_comp2 (ρ := v1 ns p) (as := [.int 1, .int 0, .int 0]) (bs := [.int x0, .int x1, .int x2]) B (by first | kernel_rfl | decide +kernel) (by kernel_rfl) (fun env F => sd.e (w_1a ..) (kindF F)) (w_1l ns p) (by first | kernel_rfl | decide +kernel) (by first | kernel_rfl | decide +kernel) (by first | kernel_rfl | decide +kernel)
      (fun cl env => .take (fun C => sd.e e0 (.inner w_1n)) (.take (fun C => sd.e e1 (.inner w_1n)) (.take (fun C => sd.e e2 (.inner w_1n)) .nil))) (by decide) hsw (by first | kernel_rfl | decide +kernel)
  · refine ex_cons (st₁ := (v3 ns p [.int x0, .int x1, .int x2] [.int (wOf p x0), .int (wOf p x1), .int (wOf p x2)], none)) ?_ hc
    have hp' : 1 ≤ p - 1 ∧ p - 1 ≤ 1000 := by (first | grind | omega)
    have hf : ∀ x, 0 ≤ x → x < 1000000000000000000 → fW phiD ns p [.int x0, .int x1, .int x2] (.int x) = some (.at (.int (wOf p x))) := fun x h0 h1 => by
      rw [w_2f, phiD_70 h0 h1 hp'.1 hp'.2]; rfl
    refine compV_sound sd (ρ := v2 ns p [.int x0, .int x1, .int x2]) (bs := [.int (wOf p x0), .int (wOf p x1), .int (wOf p x2)]) ?_ w_2s (by first | kernel_rfl | decide +kernel)
    rw [w_2]
    unfold lcV
    rw [if_pos (by simp)]
    have := compD_map (F := fW phiD ns p [.int x0, .int x1, .int x2]) (T := fun _ => some true) (g := fun x => .int (wOf p x)) (l := [x0, x1, x2]) (fun c hc => by
      simp only [List.mem_cons, List.not_mem_nil, or_false] at hc
      rcases hc with rfl | rfl | rfl
      · exact hf _ a0 b0
      · exact hf _ a1 b1
      · exact hf _ a2 b2) fun _ _ => rfl
    exact this
end
end Mine
end
section
open PySem PySem.W PySem.Calls PyProof.Rows PySem.Spec PySem.SeqAt PySem.SeqRoads2 PySem.MeetsSeq
set_option Elab.async false
set_option maxRecDepth 100000
set_option linter.unusedVariables false
namespace Mine
noncomputable def wordL : List Str := [⟨#[79, 80, 84, 73, 77, 73, 90, 69, 68]⟩,
  ⟨#[78, 69, 87, 76, 79, 67, 65, 76, 83]⟩,
  ⟨#[86, 65, 82, 65, 82, 71, 83]⟩,
  ⟨#[86, 65, 82, 75, 69, 89, 87, 79, 82, 68, 83]⟩,
  ⟨#[78, 69, 83, 84, 69, 68]⟩,
  ⟨#[71, 69, 78, 69, 82, 65, 84, 79, 82]⟩,
  ⟨#[78, 79, 70, 82, 69, 69]⟩,
  ⟨#[67, 79, 82, 79, 85, 84, 73, 78, 69]⟩,
  ⟨#[73, 84, 69, 82, 65, 66, 76, 69, 95, 67, 79, 82, 79, 85, 84, 73, 78, 69]⟩,
  ⟨#[65, 83, 89, 78, 67, 95, 71, 69, 78, 69, 82, 65, 84, 79, 82]⟩,
  ⟨#[48, 120, 52, 48, 48]⟩,
  ⟨#[48, 120, 56, 48, 48]⟩,
  ⟨#[48, 120, 49, 48, 48, 48]⟩,
  ⟨#[48, 120, 50, 48, 48, 48]⟩,
  ⟨#[48, 120, 52, 48, 48, 48]⟩,
  ⟨#[48, 120, 56, 48, 48, 48]⟩,
  ⟨#[48, 120, 49, 48, 48, 48, 48]⟩,
  ⟨#[48, 120, 50, 48, 48, 48, 48]⟩,
  ⟨#[48, 120, 52, 48, 48, 48, 48]⟩,
  ⟨#[48, 120, 56, 48, 48, 48, 48]⟩,
  ⟨#[48, 120, 49, 48, 48, 48, 48, 48]⟩,
  ⟨#[48, 120, 50, 48, 48, 48, 48, 48]⟩,
  ⟨#[48, 120, 52, 48, 48, 48, 48, 48]⟩,
  ⟨#[48, 120, 56, 48, 48, 48, 48, 48]⟩,
  ⟨#[48, 120, 49, 48, 48, 48, 48, 48, 48]⟩,
  ⟨#[48, 120, 50, 48, 48, 48, 48, 48, 48]⟩,
  ⟨#[48, 120, 52, 48, 48, 48, 48, 48, 48]⟩,
  ⟨#[48, 120, 56, 48, 48, 48, 48, 48, 48]⟩,
  ⟨#[48, 120, 49, 48, 48, 48, 48, 48, 48, 48]⟩,
  ⟨#[48, 120, 50, 48, 48, 48, 48, 48, 48, 48]⟩,
  ⟨#[48, 120, 52, 48, 48, 48, 48, 48, 48, 48]⟩]
noncomputable def wd (i : Nat) : Str := wordL.getD i ⟨#[]⟩
noncomputable def sepS : Str := Str.ofString ", "
noncomputable def K70 : Cs where
  p := 7
  par := 0
  o := 2
  cs := [0, 1, 1, 6, 1, 6, 6]
  rs := [1, 6]
  m0 := [1, 6]
  m1 := [2, 5]
  m2 := [3, 4]
  p0 := ⟨#[78, 69, 87, 76, 79, 67, 65, 76, 83, 44, 32, 78, 79, 70, 82, 69, 69]⟩
  p1 := ⟨#[86, 65, 82, 65, 82, 71, 83, 44, 32, 71, 69, 78, 69, 82, 65, 84, 79, 82]⟩
  p2 := ⟨#[86, 65, 82, 75, 69, 89, 87, 79, 82, 68, 83, 44, 32, 78, 69, 83, 84, 69, 68]⟩
  q := -5
  r := 5
  c := [0, 1, 0]
  a := 2
  b := 3
  d := 0
  cl := [0, 1, 2, 2, 1, 0]
  h := 0x3fcc71c71c71c71d
noncomputable def K71 : Cs where
  p := 7
  par := 1
  o := 4
  cs := [0, 1, 1, 6, 1, 6, 6]
  rs := [1, 6]
  m0 := [1, 6]
  m1 := [3, 4]
  m2 := [2, 5]
  p0 := ⟨#[78, 69, 87, 76, 79, 67, 65, 76, 83, 44, 32, 78, 79, 70, 82, 69, 69]⟩
  p1 := ⟨#[86, 65, 82, 75, 69, 89, 87, 79, 82, 68, 83, 44, 32, 78, 69, 83, 84, 69, 68]⟩
  p2 := ⟨#[86, 65, 82, 65, 82, 71, 83, 44, 32, 71, 69, 78, 69, 82, 65, 84, 79, 82]⟩
  q := -5
  r := 5
  c := [0, 0, 1]
  a := 2
  b := 0
  d := 3
  cl := [0, 2, 1, 1, 2, 0]
  h := 0x3fe8e38e38e38e39
noncomputable def K130 : Cs where
  p := 13
  par := 0
  o := 2
  cs := [0, 1, 8, 1, 12, 8, 8, 5, 5, 1, 12, 5, 12]
  rs := [1, 5, 8, 12]
  m0 := [1, 5, 8, 12]
  m1 := [2, 3, 10, 11]
  m2 := [4, 6, 7, 9]
  p0 := ⟨#[78, 69, 87, 76, 79, 67, 65, 76, 83, 44, 32, 71, 69, 78, 69, 82, 65, 84, 79, 82, 44, 32, 73, 84, 69, 82, 65, 66, 76, 69, 95, 67, 79, 82, 79, 85, 84, 73, 78, 69, 44, 32, 48, 120, 49, 48, 48, 48]⟩
  p1 := ⟨#[86, 65, 82, 65, 82, 71, 83, 44, 32, 86, 65, 82, 75, 69, 89, 87, 79, 82, 68, 83, 44, 32, 48, 120, 52, 48, 48, 44, 32, 48, 120, 56, 48, 48]⟩
  p2 := ⟨#[78, 69, 83, 84, 69, 68, 44, 32, 78, 79, 70, 82, 69, 69, 44, 32, 67, 79, 82, 79, 85, 84, 73, 78, 69, 44, 32, 65, 83, 89, 78, 67, 95, 71, 69, 78, 69, 82, 65, 84, 79, 82]⟩
  q := -11
  r := 11
  c := [0, 1, 0]
  a := 2
  b := 3
  d := 6
  cl := [0, 1, 1, 2, 0, 2, 2, 0, 2, 1, 1, 0]
  h := 0x3fe4000000000000
noncomputable def K131 : Cs where
  p := 13
  par := 1
  o := 4
  cs := [0, 1, 8, 1, 12, 8, 8, 5, 5, 1, 12, 5, 12]
  rs := [1, 5, 8, 12]
  m0 := [1, 5, 8, 12]
  m1 := [4, 6, 7, 9]
  m2 := [2, 3, 10, 11]
  p0 := ⟨#[78, 69, 87, 76, 79, 67, 65, 76, 83, 44, 32, 71, 69, 78, 69, 82, 65, 84, 79, 82, 44, 32, 73, 84, 69, 82, 65, 66, 76, 69, 95, 67, 79, 82, 79, 85, 84, 73, 78, 69, 44, 32, 48, 120, 49, 48, 48, 48]⟩
  p1 := ⟨#[78, 69, 83, 84, 69, 68, 44, 32, 78, 79, 70, 82, 69, 69, 44, 32, 67, 79, 82, 79, 85, 84, 73, 78, 69, 44, 32, 65, 83, 89, 78, 67, 95, 71, 69, 78, 69, 82, 65, 84, 79, 82]⟩
  p2 := ⟨#[86, 65, 82, 65, 82, 71, 83, 44, 32, 86, 65, 82, 75, 69, 89, 87, 79, 82, 68, 83, 44, 32, 48, 120, 52, 48, 48, 44, 32, 48, 120, 56, 48, 48]⟩
  q := -11
  r := 11
  c := [0, 0, 1]
  a := 2
  b := 6
  d := 3
  cl := [0, 2, 2, 1, 0, 1, 1, 0, 1, 2, 2, 0]
  h := 0x3fd8000000000000
noncomputable def K190 : Cs where
  p := 19
  par := 0
  o := 2
  cs := [0, 1, 8, 8, 7, 11, 7, 1, 18, 7, 12, 1, 18, 12, 8, 12, 11, 11, 18]
  rs := [1, 7, 8, 11, 12, 18]
  m0 := [1, 7, 8, 11, 12, 18]
  m1 := [2, 3, 5, 14, 16, 17]
  m2 := [4, 6, 9, 10, 13, 15]
  p0 := ⟨#[78, 69, 87, 76, 79, 67, 65, 76, 83, 44, 32, 67, 79, 82, 79, 85, 84, 73, 78, 69, 44, 32, 73, 84, 69, 82, 65, 66, 76, 69, 95, 67, 79, 82, 79, 85, 84, 73, 78, 69, 44, 32, 48, 120, 56, 48, 48, 44, 32, 48, 120, 49, 48, 48, 48, 44, 32, 48, 120, 52, 48, 48, 48, 48]⟩
  p1 := ⟨#[86, 65, 82, 65, 82, 71, 83, 44, 32, 86, 65, 82, 75, 69, 89, 87, 79, 82, 68, 83, 44, 32, 71, 69, 78, 69, 82, 65, 84, 79, 82, 44, 32, 48, 120, 52, 48, 48, 48, 44, 32, 48, 120, 49, 48, 48, 48, 48, 44, 32, 48, 120, 50, 48, 48, 48, 48]⟩
  p2 := ⟨#[78, 69, 83, 84, 69, 68, 44, 32, 78, 79, 70, 82, 69, 69, 44, 32, 65, 83, 89, 78, 67, 95, 71, 69, 78, 69, 82, 65, 84, 79, 82, 44, 32, 48, 120, 52, 48, 48, 44, 32, 48, 120, 50, 48, 48, 48, 44, 32, 48, 120, 56, 48, 48, 48]⟩
  q := -17
  r := 17
  c := [0, 1, 0]
  a := 8
  b := 3
  d := 6
  cl := [0, 1, 1, 2, 1, 2, 0, 0, 2, 2, 0, 0, 2, 1, 2, 1, 1, 0]
  h := 0x3feccccccccccccd
noncomputable def K191 : Cs where
  p := 19
  par := 1
  o := 4
  cs := [0, 1, 8, 8, 7, 11, 7, 1, 18, 7, 12, 1, 18, 12, 8, 12, 11, 11, 18]
  rs := [1, 7, 8, 11, 12, 18]
  m0 := [1, 7, 8, 11, 12, 18]
  m1 := [4, 6, 9, 10, 13, 15]
  m2 := [2, 3, 5, 14, 16, 17]
  p0 := ⟨#[78, 69, 87, 76, 79, 67, 65, 76, 83, 44, 32, 67, 79, 82, 79, 85, 84, 73, 78, 69, 44, 32, 73, 84, 69, 82, 65, 66, 76, 69, 95, 67, 79, 82, 79, 85, 84, 73, 78, 69, 44, 32, 48, 120, 56, 48, 48, 44, 32, 48, 120, 49, 48, 48, 48, 44, 32, 48, 120, 52, 48, 48, 48, 48]⟩
  p1 := ⟨#[78, 69, 83, 84, 69, 68, 44, 32, 78, 79, 70, 82, 69, 69, 44, 32, 65, 83, 89, 78, 67, 95, 71, 69, 78, 69, 82, 65, 84, 79, 82, 44, 32, 48, 120, 52, 48, 48, 44, 32, 48, 120, 50, 48, 48, 48, 44, 32, 48, 120, 56, 48, 48, 48]⟩
  p2 := ⟨#[86, 65, 82, 65, 82, 71, 83, 44, 32, 86, 65, 82, 75, 69, 89, 87, 79, 82, 68, 83, 44, 32, 71, 69, 78, 69, 82, 65, 84, 79, 82, 44, 32, 48, 120, 52, 48, 48, 48, 44, 32, 48, 120, 49, 48, 48, 48, 48, 44, 32, 48, 120, 50, 48, 48, 48, 48]⟩
  q := -17
  r := 17
  c := [0, 0, 1]
  a := 8
  b := 6
  d := 3
  cl := [0, 2, 2, 1, 2, 1, 0, 0, 1, 1, 0, 0, 1, 2, 1, 2, 2, 0]
  h := 0x3fb9999999999999
noncomputable def K310 : Cs where
  p := 31
  par := 0
  o := 3
  cs := [0, 1, 8, 27, 2, 1, 30, 2, 16, 16, 8, 29, 23, 27, 16, 27, 4, 15, 4, 8, 2, 23, 15, 15, 29, 1, 30, 29, 4, 23, 30]
  rs := [1, 2, 4, 8, 15, 16, 23, 27, 29, 30]
  m0 := [1, 2, 4, 8, 15, 16, 23, 27, 29, 30]
  m1 := [3, 6, 7, 12, 14, 17, 19, 24, 25, 28]
  m2 := [5, 9, 10, 11, 13, 18, 20, 21, 22, 26]
  p0 := ⟨#[78, 69, 87, 76, 79, 67, 65, 76, 83, 44, 32, 86, 65, 82, 65, 82, 71, 83, 44, 32, 78, 69, 83, 84, 69, 68, 44, 32, 73, 84, 69, 82, 65, 66, 76, 69, 95, 67, 79, 82, 79, 85, 84, 73, 78, 69, 44, 32, 48, 120, 56, 48, 48, 48, 44, 32, 48, 120, 49, 48, 48, 48, 48, 44, 32, 48, 120, 56, 48, 48, 48, 48, 48, 44, 32, 48, 120, 56, 48, 48, 48, 48, 48, 48, 44, 32, 48, 120, 50, 48, 48, 48, 48, 48, 48, 48, 44, 32, 48, 120, 52, 48, 48, 48, 48, 48, 48, 48]⟩
  p1 := ⟨#[86, 65, 82, 75, 69, 89, 87, 79, 82, 68, 83, 44, 32, 78, 79, 70, 82, 69, 69, 44, 32, 67, 79, 82, 79, 85, 84, 73, 78, 69, 44, 32, 48, 120, 49, 48, 48, 48, 44, 32, 48, 120, 52, 48, 48, 48, 44, 32, 48, 120, 50, 48, 48, 48, 48, 44, 32, 48, 120, 56, 48, 48, 48, 48, 44, 32, 48, 120, 49, 48, 48, 48, 48, 48, 48, 44, 32, 48, 120, 50, 48, 48, 48, 48, 48, 48, 44, 32, 48, 120, 49, 48, 48, 48, 48, 48, 48, 48]⟩
  p2 := ⟨#[71, 69, 78, 69, 82, 65, 84, 79, 82, 44, 32, 65, 83, 89, 78, 67, 95, 71, 69, 78, 69, 82, 65, 84, 79, 82, 44, 32, 48, 120, 52, 48, 48, 44, 32, 48, 120, 56, 48, 48, 44, 32, 48, 120, 50, 48, 48, 48, 44, 32, 48, 120, 52, 48, 48, 48, 48, 44, 32, 48, 120, 49, 48, 48, 48, 48, 48, 44, 32, 48, 120, 50, 48, 48, 48, 48, 48, 44, 32, 48, 120, 52, 48, 48, 48, 48, 48, 44, 32, 48, 120, 52, 48, 48, 48, 48, 48, 48]⟩
  q := -29
  r := 29
  c := [1, 0, 0]
  a := 11
  b := 12
  d := 6
  cl := [0, 0, 1, 0, 2, 1, 1, 0, 2, 2, 2, 1, 2, 1, 0, 0, 1, 2, 1, 2, 2, 2, 0, 1, 1, 2, 0, 1, 0, 0]
  h := 0x3fc8e38e38e38e38
noncomputable def K311 : Cs where
  p := 31
  par := 1
  o := 9
  cs := [0, 1, 8, 27, 2, 1, 30, 2, 16, 16, 8, 29, 23, 27, 16, 27, 4, 15, 4, 8, 2, 23, 15, 15, 29, 1, 30, 29, 4, 23, 30]
  rs := [1, 2, 4, 8, 15, 16, 23, 27, 29, 30]
  m0 := [1, 2, 4, 8, 15, 16, 23, 27, 29, 30]
  m1 := [5, 9, 10, 11, 13, 18, 20, 21, 22, 26]
  m2 := [3, 6, 7, 12, 14, 17, 19, 24, 25, 28]
  p0 := ⟨#[78, 69, 87, 76, 79, 67, 65, 76, 83, 44, 32, 86, 65, 82, 65, 82, 71, 83, 44, 32, 78, 69, 83, 84, 69, 68, 44, 32, 73, 84, 69, 82, 65, 66, 76, 69, 95, 67, 79, 82, 79, 85, 84, 73, 78, 69, 44, 32, 48, 120, 56, 48, 48, 48, 44, 32, 48, 120, 49, 48, 48, 48, 48, 44, 32, 48, 120, 56, 48, 48, 48, 48, 48, 44, 32, 48, 120, 56, 48, 48, 48, 48, 48, 48, 44, 32, 48, 120, 50, 48, 48, 48, 48, 48, 48, 48, 44, 32, 48, 120, 52, 48, 48, 48, 48, 48, 48, 48]⟩
  p1 := ⟨#[71, 69, 78, 69, 82, 65, 84, 79, 82, 44, 32, 65, 83, 89, 78, 67, 95, 71, 69, 78, 69, 82, 65, 84, 79, 82, 44, 32, 48, 120, 52, 48, 48, 44, 32, 48, 120, 56, 48, 48, 44, 32, 48, 120, 50, 48, 48, 48, 44, 32, 48, 120, 52, 48, 48, 48, 48, 44, 32, 48, 120, 49, 48, 48, 48, 48, 48, 44, 32, 48, 120, 50, 48, 48, 48, 48, 48, 44, 32, 48, 120, 52, 48, 48, 48, 48, 48, 44, 32, 48, 120, 52, 48, 48, 48, 48, 48, 48]⟩
  p2 := ⟨#[86, 65, 82, 75, 69, 89, 87, 79, 82, 68, 83, 44, 32, 78, 79, 70, 82, 69, 69, 44, 32, 67, 79, 82, 79, 85, 84, 73, 78, 69, 44, 32, 48, 120, 49, 48, 48, 48, 44, 32, 48, 120, 52, 48, 48, 48, 44, 32, 48, 120, 50, 48, 48, 48, 48, 44, 32, 48, 120, 56, 48, 48, 48, 48, 44, 32, 48, 120, 49, 48, 48, 48, 48, 48, 48, 44, 32, 48, 120, 50, 48, 48, 48, 48, 48, 48, 44, 32, 48, 120, 49, 48, 48, 48, 48, 48, 48, 48]⟩
  q := -29
  r := 29
  c := [1, 0, 0]
  a := 11
  b := 6
  d := 12
  cl := [0, 0, 2, 0, 1, 2, 2, 0, 1, 1, 1, 2, 1, 2, 0, 0, 2, 1, 2, 1, 1, 1, 0, 2, 2, 1, 0, 2, 0, 0]
  h := 0x3fe9c71c71c71c71
noncomputable def hot (c : Nat) : List At := [.int (if c = 0 then 1 else 0), .int (if c = 1 then 1 else 0), .int (if c = 2 then 1 else 0)]
/-- the class of a number -/
noncomputable def Cs.clx (K : Cs) (x : Int) : Nat := K.cl.getD (x - 1).toNat 0
/-- two lists of texts, compared sign by sign -/
noncomputable def eqA (a b : At) : Bool := match atStr a with
  | some x => (match atStr b with
    | some y => x.cps.toList == y.cps.toList
    | none => false)
  | none => false
noncomputable def eqTx : List At → List At → Bool
  | [], bs => bs.isEmpty
  | a :: as, bs => (match bs with
    | b :: bs => eqA a b && eqTx as bs
    | [] => false)
theorem eqA_eq {a b : At} (h : eqA a b = true) : a = b := by
  cases a with
  | str x => cases b with
    | str y =>
      have h' : x.cps.toList = y.cps.toList := eq_of_beq h
      have : x = y := by cases x; cases y; exact congrArg Str.mk (Array.toList_inj.mp h')
      rw [this]
    | _ => exact no_tt h
  | _ => exact no_tt h
theorem eqTx_eq {as bs : List At} (h : eqTx as bs = true) : as = bs := by
  induction as generalizing bs with
  | nil => cases bs with
    | nil => rfl
    | cons _ _ => exact no_tt h
  | cons a as ih => cases bs with
    | nil => exact no_tt h
    | cons b bs =>
      obtain ⟨h1, h2⟩ := Bool.and_eq_true_iff.mp h
      rw [eqA_eq h1, ih h2]
noncomputable def colL (K : Cs) (ds : List D) : Option D := match ds with
  | [x, y] => (asInt x).bind fun x => (asLst y).bind fun pl => if (eqTx pl K.pls && decide (1 ≤ x) && decide (x < K.p)) = true then some (.lst (hot (K.clx x))) else none
  | _ => none
noncomputable def phiL (K : Cs) : Addr → List D → Option D := fun f ds => if (f == 90) = true then colL K ds else phiW f ds
theorem strsOf_map : ∀ l : List Str, strsOf (l.map .str) = some l
  | [] => rfl
  | c :: l => by
    show ((some c).bind fun i => (strsOf (l.map .str)).map (i :: ·)) = _
    rw [strsOf_map l]; rfl
noncomputable def cE : Expr := reE (stN (bodyAt 90) 0)
theorem c_eq : bodyAt 90 = [.Return (some cE) (poS (stN (bodyAt 90) 0))] := by kernel_rfl
noncomputable def c0 (x : Int) (pls : List At) : Rho := [(Str.ofString "number", .int x), (Str.ofString "planes", .lst pls)]
noncomputable def cR (x : Int) (pls : List At) (a : At) : Rho := (Str.ofString "plane", .at a) :: innerOf (coN cE) (c0 x pls)
noncomputable def fC (phi : Addr → List D → Option D) (x : Int) (pls : List At) (a : At) : Option D := (evs phi 8).e (coN cE) (cR x pls a) (coE cE)
noncomputable def cm2 (op : CmpOp) (x y : Option D) : Option Bool := x.bind fun a => y.bind fun b => cmpD op a b
noncomputable def cI (phi : Addr → List D → Option D) (ρ : Rho) (c : Option Bool) : Option D := c.bind fun c => (evs phi 7).e (coN cE) ρ (if c = true then ieB (coE cE) else ieO (coE cE))
section
variable (phi : Addr → List D → Option D) (x : Int) (pl : Str) (pls : List At) (a : At)
theorem c_l : (evs phi 9).e (namesAt 90) (c0 x pls) cE = lc1 pls (compD (fC phi x pls) (fun _ => some true) pls) := by kernel_rfl
theorem c_f : fC phi x pls (.str pl) = cI phi (cR x pls (.str pl)) (cm2 .In (phi 85 [.int x]) (methD (Str.ofString "split") (.str pl) [.str (Str.ofString ", ")])) := by kernel_rfl
theorem c_1 : (evs phi 7).e (coN cE) (cR x pls a) (ieB (coE cE)) = some (.int 1) := by kernel_rfl
theorem c_2 : (evs phi 7).e (coN cE) (cR x pls a) (ieO (coE cE)) = some (.int 0) := by kernel_rfl
end
theorem split_eq {pl : Str} {ws : List Str} (h : Txt.split pl sepS = ws) (h1 : pl.length ≤ 100000) (h2 : ws.length ≤ 100000) : methD (Str.ofString "split") (.str pl) [.str (Str.ofString ", ")] = some (.lst (ws.map .str)) := by
  have hs : (sepS.length != 0) = true := by first | kernel_rfl | decide +kernel
  show (if (Str.ofString "split" == Str.ofString "split" && decide (pl.length ≤ 100000) && sepS.length != 0 && decide ((Txt.split pl sepS).length ≤ 100000)) = true then some (D.lst ((Txt.split pl sepS).map .str)) else none) = _
  rw [h, hs, decide_eq_true h1, decide_eq_true h2, beq_self_eq_true]; rfl
theorem in_words {w : Str} {ws : List Str} : cm2 .In (some (.str w)) (some (.lst (ws.map .str))) = some (ws.any (· == w)) := by
  show (strsOf (ws.map .str)).bind (inS .In w) = _
  rw [strsOf_map]; rfl
noncomputable def isIn (ws : List Str) (w : Str) : At := .int (if ws.any (· == w) = true then 1 else 0)
section
variable {W : Wd} {k : Nat} {P : Params}
theorem c_one {phi : Addr → List D → Option D} {x : Int} {w' pl : Str} {pls : List At} {ws : List Str} (h85 : phi 85 [.int x] = some (.str w')) (h : Txt.split pl sepS = ws) (h1 : pl.length ≤ 100000) (h2 : ws.length ≤ 100000) : fC phi x pls (.str pl) = some (.at (isIn ws w')) := by
  rw [c_f, h85, split_eq h h1 h2, in_words]
  unfold isIn
  cases ws.any (· == w') with
  | true => exact c_1 ..
  | false => exact c_2 ..
theorem col_call {phi : Addr → List D → Option D} {x : Int} {w' p0 p1 p2 : Str} {ws0 ws1 ws2 : List Str} (h8' : 8 ≤ k) (X : (hd.heap_39 P).In W.base) (B : BaseOK W) (FO : FlagsOK W) (PO : PhiOK W k phi) (h85 : phi 85 [.int x] = some (.str w'))
    (e0 : Txt.split p0 sepS = ws0) (e1 : Txt.split p1 sepS = ws1) (e2 : Txt.split p2 sepS = ws2) (hp : ∀ p ∈ [p0, p1, p2], p.length ≤ 100000) (hw : ∀ ws ∈ [ws0, ws1, ws2], ws.length ≤ 100000) :
    CallOK W (k + 1) 90 [.int x, .lst [.str p0, .str p1, .str p2]] (.lst [isIn ws0 w', isIn ws1 w', isIn ws2 w']) := by
  have sd := evs_sound h8' B FO PO 9
  refine fn_call B (fn90 X) (by first | kernel_rfl | decide +kernel) rfl rfl (st' := (c0 x [.str p0, .str p1, .str p2], none)) ?_
  rw [c_eq]
  refine ex_stop (fun e => nomatch e) (ex_return fun env F => sd.e (ρ := c0 x [.str p0, .str p1, .str p2]) ?_ (kindF F))
  rw [c_l]
  unfold lc1
  rw [if_pos (by simp)]
  unfold compD compD compD compD
  rw [c_one h85 e0 (hp _ (.head _)) (hw _ (.head _)), c_one h85 e1 (hp _ (.tail _ (.head _))) (hw _ (.tail _ (.head _))), c_one h85 e2 (hp _ (.tail _ (.tail _ (.head _)))) (hw _ (.tail _ (.tail _ (.head _))))]
  rfl
end
end Mine
end
section
open PySem PySem.W PySem.Calls PyProof.Rows PySem.Spec PySem.SeqAt PySem.SeqRoads2 PySem.MeetsSeq
set_option Elab.async false
set_option maxRecDepth 100000
set_option linter.unusedVariables false
namespace Mine

theorem wq1 : callF phiD 8 85 [.int 1] = some (.str (wd 1)) := by kernel_rfl
theorem wq2 : callF phiD 8 85 [.int 2] = some (.str (wd 2)) := by kernel_rfl
theorem wq3 : callF phiD 8 85 [.int 3] = some (.str (wd 3)) := by kernel_rfl
theorem wq4 : callF phiD 8 85 [.int 4] = some (.str (wd 4)) := by kernel_rfl
theorem wq5 : callF phiD 8 85 [.int 5] = some (.str (wd 5)) := by kernel_rfl
theorem wq6 : callF phiD 8 85 [.int 6] = some (.str (wd 6)) := by kernel_rfl
theorem wq7 : callF phiD 8 85 [.int 7] = some (.str (wd 7)) := by kernel_rfl
theorem wq8 : callF phiD 8 85 [.int 8] = some (.str (wd 8)) := by kernel_rfl
theorem wq9 : callF phiD 8 85 [.int 9] = some (.str (wd 9)) := by kernel_rfl
theorem wq10 : callF phiD 8 85 [.int 10] = some (.str (wd 10)) := by kernel_rfl
theorem wq11 : callF phiD 8 85 [.int 11] = some (.str (wd 11)) := by kernel_rfl
theorem wq12 : callF phiD 8 85 [.int 12] = some (.str (wd 12)) := by kernel_rfl
theorem wq13 : callF phiD 8 85 [.int 13] = some (.str (wd 13)) := by kernel_rfl
theorem wq14 : callF phiD 8 85 [.int 14] = some (.str (wd 14)) := by kernel_rfl
theorem wq15 : callF phiD 8 85 [.int 15] = some (.str (wd 15)) := by kernel_rfl
theorem wq16 : callF phiD 8 85 [.int 16] = some (.str (wd 16)) := by kernel_rfl
theorem wq17 : callF phiD 8 85 [.int 17] = some (.str (wd 17)) := by kernel_rfl
theorem wq18 : callF phiD 8 85 [.int 18] = some (.str (wd 18)) := by kernel_rfl
theorem wq19 : callF phiD 8 85 [.int 19] = some (.str (wd 19)) := by kernel_rfl
theorem wq20 : callF phiD 8 85 [.int 20] = some (.str (wd 20)) := by kernel_rfl
theorem wq21 : callF phiD 8 85 [.int 21] = some (.str (wd 21)) := by kernel_rfl
theorem wq22 : callF phiD 8 85 [.int 22] = some (.str (wd 22)) := by kernel_rfl
theorem wq23 : callF phiD 8 85 [.int 23] = some (.str (wd 23)) := by kernel_rfl
theorem wq24 : callF phiD 8 85 [.int 24] = some (.str (wd 24)) := by kernel_rfl
theorem wq25 : callF phiD 8 85 [.int 25] = some (.str (wd 25)) := by kernel_rfl
theorem wq26 : callF phiD 8 85 [.int 26] = some (.str (wd 26)) := by kernel_rfl
theorem wq27 : callF phiD 8 85 [.int 27] = some (.str (wd 27)) := by kernel_rfl
theorem wq28 : callF phiD 8 85 [.int 28] = some (.str (wd 28)) := by kernel_rfl
theorem wq29 : callF phiD 8 85 [.int 29] = some (.str (wd 29)) := by kernel_rfl
theorem wq30 : callF phiD 8 85 [.int 30] = some (.str (wd 30)) := by kernel_rfl
theorem words_ok (i : Nat) (h1 : 1 ≤ i) (h2 : i < 31) : phiW 85 [.int (i : Int)] = some (.str (wd i)) := by
  show callF phiD 8 85 [.int (i : Int)] = _
  match i, h1, h2 with
  | 1, _, _ => exact wq1
  | 2, _, _ => exact wq2
  | 3, _, _ => exact wq3
  | 4, _, _ => exact wq4
  | 5, _, _ => exact wq5
  | 6, _, _ => exact wq6
  | 7, _, _ => exact wq7
  | 8, _, _ => exact wq8
  | 9, _, _ => exact wq9
  | 10, _, _ => exact wq10
  | 11, _, _ => exact wq11
  | 12, _, _ => exact wq12
  | 13, _, _ => exact wq13
  | 14, _, _ => exact wq14
  | 15, _, _ => exact wq15
  | 16, _, _ => exact wq16
  | 17, _, _ => exact wq17
  | 18, _, _ => exact wq18
  | 19, _, _ => exact wq19
  | 20, _, _ => exact wq20
  | 21, _, _ => exact wq21
  | 22, _, _ => exact wq22
  | 23, _, _ => exact wq23
  | 24, _, _ => exact wq24
  | 25, _, _ => exact wq25
  | 26, _, _ => exact wq26
  | 27, _, _ => exact wq27
  | 28, _, _ => exact wq28
  | 29, _, _ => exact wq29
  | 30, _, _ => exact wq30
  | n + 31, _, h => exact absurd h (by (first | grind | omega))
theorem wd_inj {i j : Nat} (hi : i < 31) (hj : j < 31) : (wd i == wd j) = (i == j) := by
  have h : (List.range 31).all (fun i => (List.range 31).all fun j => (wd i == wd j) == (i == j)) = true := by decide +kernel
  have h1 := List.all_eq_true.mp h i (List.mem_range.mpr hi)
  have h2 := List.all_eq_true.mp h1 j (List.mem_range.mpr hj)
  exact eq_of_beq h2
noncomputable def isN (ms : List Nat) (i : Nat) : At := .int (if ms.any (· == i) = true then 1 else 0)
theorem any_words {i : Nat} (hi : i < 31) : ∀ ms : List Nat, (∀ m ∈ ms, m < 31) → (ms.map wd).any (· == wd i) = ms.any (· == i)
  | [], _ => rfl
  | m :: ms, h => by
    rw [List.map_cons, List.any_cons, List.any_cons, wd_inj (h m (.head _)) hi, any_words hi ms fun x hx => h x (.tail _ hx)]
theorem isIn_words {i : Nat} (hi : i < 31) {ms : List Nat} (h : ∀ m ∈ ms, m < 31) : isIn (ms.map wd) (wd i) = isN ms i := by
  unfold isIn isN
  rw [any_words hi ms h]
structure FactK (K : Cs) : Prop where
  s0 : Txt.split K.p0 sepS = K.m0.map wd
  s1 : Txt.split K.p1 sepS = K.m1.map wd
  s2 : Txt.split K.p2 sepS = K.m2.map wd
  lp : ∀ p ∈ [K.p0, K.p1, K.p2], p.length ≤ 100000
  lm : ∀ ms ∈ [K.m0, K.m1, K.m2], ms.length ≤ 100000 ∧ ∀ m ∈ ms, m < 31
  pp : K.p ≤ 31
  c : ∀ i : Nat, 1 ≤ i → (i : Int) < K.p → hot (K.clx i) = [isN K.m0 i, isN K.m1 i, isN K.m2 i]
section
variable {W : Wd} {P : Params}
theorem phiL_ok {K : Cs} (X : (hd.heap_39 P).In W.base) (B : BaseOK W) (FO : FlagsOK W) (N : NestOK W) (F : FactK K) : PhiOK W 85 (phiL K) := fun f ds d h => by
  have hp := phiW_ok X B FO N
  by_cases hf : (f == 90) = true
  · have h' : colL K ds = some d := (if_pos hf).symm.trans h
    have hf' : f = 90 := eq_of_beq hf
    clear h
    match ds, h' with
    | [x, y], h' =>
      obtain ⟨x', hx, h1⟩ := Option.bind_eq_some_iff.mp h'
      obtain ⟨pl, hpl, h2⟩ := Option.bind_eq_some_iff.mp h1
      obtain ⟨hc, he⟩ := if_some h2
      simp only [Bool.and_eq_true, decide_eq_true_eq] at hc
      obtain ⟨⟨c1, c2⟩, c3⟩ := hc
      rw [asInt_eq hx, asLst_eq hpl, ← he, hf', eqTx_eq c1]
      clear h' h1 h2 hx hpl he c1
      obtain ⟨i, rfl⟩ := Int.eq_ofNat_of_zero_le (show 0 ≤ x' by (first | grind | omega))
      have hi : i < 31 := by have := F.pp; (first | grind | omega)
      refine ⟨?_, fnHas (fn90 X)⟩
      have := col_call (k := 84) (by (first | grind | omega)) X B FO hp (words_ok i (by (first | grind | omega)) hi) F.s0 F.s1 F.s2 F.lp (fun ws hw => by
        simp only [List.mem_cons, List.not_mem_nil, or_false] at hw
        rcases hw with rfl | rfl | rfl <;> rw [List.length_map]
        · exact (F.lm _ (.head _)).1
        · exact (F.lm _ (.tail _ (.head _))).1
        · exact (F.lm _ (.tail _ (.tail _ (.head _)))).1)
      rw [isIn_words hi (F.lm _ (.head _)).2, isIn_words hi (F.lm _ (.tail _ (.head _))).2, isIn_words hi (F.lm _ (.tail _ (.tail _ (.head _)))).2, ← F.c i (by (first | grind | omega)) c3] at this
      exact this
    | [], h' => exact no_some h'
    | [_], h' => exact no_some h'
    | _ :: _ :: _ :: _, h' => exact no_some h'
  · exact (hp.mono (by (first | grind | omega))) f ds d ((if_neg hf).symm.trans h)
end
/-- what can be seen of a case at a glance -/
noncomputable def looks (K : Cs) : Bool := [K.p0, K.p1, K.p2].all (fun p => decide (p.length ≤ 100000)) && [K.m0, K.m1, K.m2].all (fun ms => decide (ms.length ≤ 100000) && ms.all fun m => decide (m < 31)) && decide (K.p ≤ 31) &&
  (List.range 31).all fun i => i == 0 || decide (K.p ≤ i) || decide (hot (K.clx i) = [isN K.m0 i, isN K.m1 i, isN K.m2 i])
theorem fact_of {K : Cs} (s0 : Txt.split K.p0 sepS = K.m0.map wd) (s1 : Txt.split K.p1 sepS = K.m1.map wd) (s2 : Txt.split K.p2 sepS = K.m2.map wd) (h : looks K = true) : FactK K := by
  unfold looks at h
  simp only [Bool.and_eq_true, List.all_eq_true, decide_eq_true_eq, Bool.or_eq_true, beq_iff_eq, List.mem_range] at h
  obtain ⟨⟨⟨h1, h2⟩, h3⟩, h4⟩ := h
  refine ⟨s0, s1, s2, h1, h2, h3, fun i hi hp => ?_⟩
  rcases h4 i (by (first | grind | omega)) with (h | h) | h
  · (first | grind | omega)
  · (first | grind | omega)
  · exact h

theorem sp7_0 : Txt.split K70.p0 sepS = K70.m0.map wd := by kernel_rfl
theorem sp7_1 : Txt.split K70.p1 sepS = K70.m1.map wd := by kernel_rfl
theorem sp7_2 : Txt.split K70.p2 sepS = K70.m2.map wd := by kernel_rfl
theorem sp13_0 : Txt.split K130.p0 sepS = K130.m0.map wd := by kernel_rfl
theorem sp13_1 : Txt.split K130.p1 sepS = K130.m1.map wd := by kernel_rfl
theorem sp13_2 : Txt.split K130.p2 sepS = K130.m2.map wd := by kernel_rfl
theorem sp19_0 : Txt.split K190.p0 sepS = K190.m0.map wd := by kernel_rfl
theorem sp19_1 : Txt.split K190.p1 sepS = K190.m1.map wd := by kernel_rfl
theorem sp19_2 : Txt.split K190.p2 sepS = K190.m2.map wd := by kernel_rfl
theorem sp31_0 : Txt.split K310.p0 sepS = K310.m0.map wd := by kernel_rfl
theorem sp31_1 : Txt.split K310.p1 sepS = K310.m1.map wd := by kernel_rfl
theorem sp31_2 : Txt.split K310.p2 sepS = K310.m2.map wd := by kernel_rfl
theorem fact_K70 : FactK K70 := fact_of sp7_0 sp7_1 sp7_2 (by decide +kernel)
theorem fact_K71 : FactK K71 := fact_of sp7_0 sp7_2 sp7_1 (by decide +kernel)
theorem fact_K130 : FactK K130 := fact_of sp13_0 sp13_1 sp13_2 (by decide +kernel)
theorem fact_K131 : FactK K131 := fact_of sp13_0 sp13_2 sp13_1 (by decide +kernel)
theorem fact_K190 : FactK K190 := fact_of sp19_0 sp19_1 sp19_2 (by decide +kernel)
theorem fact_K191 : FactK K191 := fact_of sp19_0 sp19_2 sp19_1 (by decide +kernel)
theorem fact_K310 : FactK K310 := fact_of sp31_0 sp31_1 sp31_2 (by decide +kernel)
theorem fact_K311 : FactK K311 := fact_of sp31_0 sp31_2 sp31_1 (by decide +kernel)
end Mine
end
section
open PySem PySem.W PySem.Calls PyProof.Rows PySem.Spec PySem.SeqAt PySem.SeqRoads2 PySem.MeetsSeq
set_option Elab.async false
set_option maxRecDepth 100000
set_option linter.unusedVariables false
namespace Mine
noncomputable def addUp (g : Int) (j : Nat) (l : List Nat) : Int := l.foldl (fun s c => s + (if c = j then 1 else 0)) g
/-- the classes that the mixture takes up -/
noncomputable def Cs.seq (K : Cs) : List Nat := (List.range (K.p.toNat - 2)).map fun (i : Nat) => K.clx (((i : Int) + 2 - ((i : Int) + 2) * ((i : Int) + 2)).fmod K.p)
noncomputable def Cs.mix (K : Cs) (g : Int) (j : Nat) : At := .int (addUp g j K.seq)
noncomputable def v11 (K : Cs) (ns : List Int) (dr ws : List At) (g : Int) : Rho := v9 K ns dr ws [K.mix g 0, K.mix g 1, K.mix g 2] ++ [(Str.ofString "k", .int (K.p - 1)), (Str.ofString "quotient", .int K.q), (Str.ofString "rest", .int K.r), (Str.ofString "colour", .lst (K.c.map .int)),
  (Str.ofString "r", .at (K.mix g 0)), (Str.ofString "g", .at (K.mix g 1)), (Str.ofString "b", .at (K.mix g 2))]
section
variable (ns : List Int) (dr ws : List At) (g : Int)

theorem r34_K70 : runs (evs phiD 9) (namesAt 100) 6 [w 3, w 4] (v3 ns 7 dr ws, none) = some ((v5 K70 ns dr ws, none), .next) := by kernel_rfl
theorem r5_K70 : (evs phiD 9).e (namesAt 100) (v5 K70 ns dr ws) (asE (w 5)) = bin2 .Pow (some (.int 2)) (bin2 .Add (some (.int 1)) (bin2 .Mod (callB "len" [.lst (ns.map .int)]) (some (.int 2)))) := by kernel_rfl
theorem r67_K70 : runs (evs phiW 12) (namesAt 100) 8 [w 6, w 7] (v6 K70 ns dr ws, none) = some ((v8 K70 ns dr ws, some (Str.ofString "planes", K70.pls)), .next) := by kernel_rfl
theorem r9_K70 : runs (evs (phiL K70) 12) (namesAt 100) 8 [w 9, w 10] (v9 K70 ns dr ws [.int g, .int g, .int g], none) = some ((v11 K70 ns dr ws g, none), .next) := by kernel_rfl
theorem r34_K71 : runs (evs phiD 9) (namesAt 100) 6 [w 3, w 4] (v3 ns 7 dr ws, none) = some ((v5 K71 ns dr ws, none), .next) := by kernel_rfl
theorem r5_K71 : (evs phiD 9).e (namesAt 100) (v5 K71 ns dr ws) (asE (w 5)) = bin2 .Pow (some (.int 2)) (bin2 .Add (some (.int 1)) (bin2 .Mod (callB "len" [.lst (ns.map .int)]) (some (.int 2)))) := by kernel_rfl
theorem r67_K71 : runs (evs phiW 12) (namesAt 100) 8 [w 6, w 7] (v6 K71 ns dr ws, none) = some ((v8 K71 ns dr ws, some (Str.ofString "planes", K71.pls)), .next) := by kernel_rfl
theorem r9_K71 : runs (evs (phiL K71) 12) (namesAt 100) 8 [w 9, w 10] (v9 K71 ns dr ws [.int g, .int g, .int g], none) = some ((v11 K71 ns dr ws g, none), .next) := by kernel_rfl
theorem r34_K130 : runs (evs phiD 9) (namesAt 100) 6 [w 3, w 4] (v3 ns 13 dr ws, none) = some ((v5 K130 ns dr ws, none), .next) := by kernel_rfl
theorem r5_K130 : (evs phiD 9).e (namesAt 100) (v5 K130 ns dr ws) (asE (w 5)) = bin2 .Pow (some (.int 2)) (bin2 .Add (some (.int 1)) (bin2 .Mod (callB "len" [.lst (ns.map .int)]) (some (.int 2)))) := by kernel_rfl
theorem r67_K130 : runs (evs phiW 12) (namesAt 100) 8 [w 6, w 7] (v6 K130 ns dr ws, none) = some ((v8 K130 ns dr ws, some (Str.ofString "planes", K130.pls)), .next) := by kernel_rfl
theorem r9_K130 : runs (evs (phiL K130) 12) (namesAt 100) 8 [w 9, w 10] (v9 K130 ns dr ws [.int g, .int g, .int g], none) = some ((v11 K130 ns dr ws g, none), .next) := by kernel_rfl
theorem r34_K131 : runs (evs phiD 9) (namesAt 100) 6 [w 3, w 4] (v3 ns 13 dr ws, none) = some ((v5 K131 ns dr ws, none), .next) := by kernel_rfl
theorem r5_K131 : (evs phiD 9).e (namesAt 100) (v5 K131 ns dr ws) (asE (w 5)) = bin2 .Pow (some (.int 2)) (bin2 .Add (some (.int 1)) (bin2 .Mod (callB "len" [.lst (ns.map .int)]) (some (.int 2)))) := by kernel_rfl
theorem r67_K131 : runs (evs phiW 12) (namesAt 100) 8 [w 6, w 7] (v6 K131 ns dr ws, none) = some ((v8 K131 ns dr ws, some (Str.ofString "planes", K131.pls)), .next) := by kernel_rfl
theorem r9_K131 : runs (evs (phiL K131) 12) (namesAt 100) 8 [w 9, w 10] (v9 K131 ns dr ws [.int g, .int g, .int g], none) = some ((v11 K131 ns dr ws g, none), .next) := by kernel_rfl
theorem r34_K190 : runs (evs phiD 9) (namesAt 100) 6 [w 3, w 4] (v3 ns 19 dr ws, none) = some ((v5 K190 ns dr ws, none), .next) := by kernel_rfl
theorem r5_K190 : (evs phiD 9).e (namesAt 100) (v5 K190 ns dr ws) (asE (w 5)) = bin2 .Pow (some (.int 2)) (bin2 .Add (some (.int 1)) (bin2 .Mod (callB "len" [.lst (ns.map .int)]) (some (.int 2)))) := by kernel_rfl
theorem r67_K190 : runs (evs phiW 12) (namesAt 100) 8 [w 6, w 7] (v6 K190 ns dr ws, none) = some ((v8 K190 ns dr ws, some (Str.ofString "planes", K190.pls)), .next) := by kernel_rfl
theorem r9_K190 : runs (evs (phiL K190) 12) (namesAt 100) 8 [w 9, w 10] (v9 K190 ns dr ws [.int g, .int g, .int g], none) = some ((v11 K190 ns dr ws g, none), .next) := by kernel_rfl
theorem r34_K191 : runs (evs phiD 9) (namesAt 100) 6 [w 3, w 4] (v3 ns 19 dr ws, none) = some ((v5 K191 ns dr ws, none), .next) := by kernel_rfl
theorem r5_K191 : (evs phiD 9).e (namesAt 100) (v5 K191 ns dr ws) (asE (w 5)) = bin2 .Pow (some (.int 2)) (bin2 .Add (some (.int 1)) (bin2 .Mod (callB "len" [.lst (ns.map .int)]) (some (.int 2)))) := by kernel_rfl
theorem r67_K191 : runs (evs phiW 12) (namesAt 100) 8 [w 6, w 7] (v6 K191 ns dr ws, none) = some ((v8 K191 ns dr ws, some (Str.ofString "planes", K191.pls)), .next) := by kernel_rfl
theorem r9_K191 : runs (evs (phiL K191) 12) (namesAt 100) 8 [w 9, w 10] (v9 K191 ns dr ws [.int g, .int g, .int g], none) = some ((v11 K191 ns dr ws g, none), .next) := by kernel_rfl
theorem r34_K310 : runs (evs phiD 9) (namesAt 100) 6 [w 3, w 4] (v3 ns 31 dr ws, none) = some ((v5 K310 ns dr ws, none), .next) := by kernel_rfl
theorem r5_K310 : (evs phiD 9).e (namesAt 100) (v5 K310 ns dr ws) (asE (w 5)) = bin2 .Pow (some (.int 3)) (bin2 .Add (some (.int 1)) (bin2 .Mod (callB "len" [.lst (ns.map .int)]) (some (.int 2)))) := by kernel_rfl
theorem r67_K310 : runs (evs phiW 12) (namesAt 100) 8 [w 6, w 7] (v6 K310 ns dr ws, none) = some ((v8 K310 ns dr ws, some (Str.ofString "planes", K310.pls)), .next) := by kernel_rfl
theorem r9_K310 : runs (evs (phiL K310) 12) (namesAt 100) 8 [w 9, w 10] (v9 K310 ns dr ws [.int g, .int g, .int g], none) = some ((v11 K310 ns dr ws g, none), .next) := by kernel_rfl
theorem r34_K311 : runs (evs phiD 9) (namesAt 100) 6 [w 3, w 4] (v3 ns 31 dr ws, none) = some ((v5 K311 ns dr ws, none), .next) := by kernel_rfl
theorem r5_K311 : (evs phiD 9).e (namesAt 100) (v5 K311 ns dr ws) (asE (w 5)) = bin2 .Pow (some (.int 3)) (bin2 .Add (some (.int 1)) (bin2 .Mod (callB "len" [.lst (ns.map .int)]) (some (.int 2)))) := by kernel_rfl
theorem r67_K311 : runs (evs phiW 12) (namesAt 100) 8 [w 6, w 7] (v6 K311 ns dr ws, none) = some ((v8 K311 ns dr ws, some (Str.ofString "planes", K311.pls)), .next) := by kernel_rfl
theorem r9_K311 : runs (evs (phiL K311) 12) (namesAt 100) 8 [w 9, w 10] (v9 K311 ns dr ws [.int g, .int g, .int g], none) = some ((v11 K311 ns dr ws g, none), .next) := by kernel_rfl
end
end Mine
end
section
open PySem PySem.W PySem.Calls PyProof.Rows PySem.Spec PySem.SeqAt PySem.SeqRoads2 PySem.MeetsSeq
set_option Elab.async false
set_option maxRecDepth 100000
set_option linter.unusedVariables false
namespace Mine
/-- what the kernel has run of a case -/
structure RunK (K : Cs) : Prop where
  r34 : ∀ ns dr ws, runs (evs phiD 9) (namesAt 100) 6 [w 3, w 4] (v3 ns K.p dr ws, none) = some ((v5 K ns dr ws, none), .next)
  r5 : ∃ o0 : Int, binI .Pow o0 (1 + (K.par : Int)) = some (.int K.o) ∧ ∀ ns dr ws, (evs phiD 9).e (namesAt 100) (v5 K ns dr ws) (asE (w 5)) = bin2 .Pow (some (.int o0)) (bin2 .Add (some (.int 1)) (bin2 .Mod (callB "len" [.lst (ns.map .int)]) (some (.int 2))))
  r67 : ∀ ns dr ws, runs (evs phiW 12) (namesAt 100) 8 [w 6, w 7] (v6 K ns dr ws, none) = some ((v8 K ns dr ws, some (Str.ofString "planes", K.pls)), .next)
  r9 : ∀ ns dr ws g, runs (evs (phiL K) 12) (namesAt 100) 8 [w 9, w 10] (v9 K ns dr ws [.int g, .int g, .int g], none) = some ((v11 K ns dr ws g, none), .next)
noncomputable def v8p (K : Cs) (ns : List Int) (dr ws : List At) : Rho := v8 K ns dr ws ++ [(Str.ofString "planes", .lst K.pls)]
section
variable (phi : Addr → List D → Option D) (K : Cs) (ns : List Int) (dr ws : List At) (S : Int)
theorem w_8 : (evs phi 9).e (namesAt 100) (v8p K ns dr ws) (asE (w 8)) = bin2 .Mult (ls1 (bin2 .Mod (bin2 .FloorDiv (callB "sum" [.lst (ns.map .int)]) (some (.int 4))) (some (.int 100)))) (some (.int 3)) := by kernel_rfl
theorem grey_eq : bin2 .Mult (ls1 (bin2 .Mod (bin2 .FloorDiv (some (.int S)) (some (.int 4))) (some (.int 100)))) (some (.int 3)) = some (.lst [.int ((S.fdiv 4).fmod 100), .int ((S.fdiv 4).fmod 100), .int ((S.fdiv 4).fmod 100)]) := by kernel_rfl
theorem v8_set : setR (v8 K ns dr ws) (Str.ofString "planes") (.lst K.pls) = v8p K ns dr ws := by kernel_rfl
theorem v9_set (m : List At) : setR (v8p K ns dr ws) (Str.ofString "mixture") (.lst m) = v9 K ns dr ws m := by kernel_rfl
theorem v6_set : setR (v5 K ns dr ws) (Str.ofString "other") (.int K.o) = v6 K ns dr ws := by kernel_rfl
end
section
variable {W : Wd} {P : Params}
theorem w_mid {K : Cs} (X : (hd.heap_39 P).In W.base) (B : BaseOK W) (FO : FlagsOK W) (N : NestOK W) (F : FactK K) (R : RunK K) {ns : List Int} {dr ws : List At} (hl : ns.length ≤ 63) (hpar : (ns.length : Int).fmod 2 = K.par) : ∃ g : Int, 0 ≤ g ∧ g < 100 ∧
    ∀ c st' fl, ExL W 85 (namesAt 100) c (v11 K ns dr ws g, none) st' fl → ExL W 85 (namesAt 100) ([w 3, w 4] ++ aS (Str.ofString "other") (w 5) :: ([w 6, w 7] ++ aS (Str.ofString "mixture") (w 8) :: ([w 9, w 10] ++ c))) (v3 ns K.p dr ws, none) st' fl := by
  have pD : PhiOK W 85 phiD := (phiD_ok X B FO N).mono (by (first | grind | omega))
  have pW : PhiOK W 85 phiW := (phiW_ok X B FO N).mono (by (first | grind | omega))
  have pL := phiL_ok X B FO N F
  have sD := evs_sound (k := 85) (by (first | grind | omega)) B FO pD 9
  have sW := evs_sound (k := 85) (by (first | grind | omega)) B FO pW 12
  have sL := evs_sound (k := 85) (by (first | grind | omega)) B FO pL 12
  obtain ⟨o0, ho, h5⟩ := R.r5
  refine ⟨(ns.sum.fdiv 4).fmod 100, Int.fmod_nonneg_of_pos _ (by (first | grind | omega)), Int.fmod_lt_of_pos _ (by (first | grind | omega)), fun c st' fl hc => ?_⟩
  refine runs_app B sD (R.r34 ns dr ws) ?_
  refine ex_cons (st₁ := (v6 K ns dr ws, none)) ?_ ?_
  · have e5 : (evs phiD 9).e (namesAt 100) (v5 K ns dr ws) (asE (w 5)) = some (.int K.o) := by
      rw [h5, cb_len (by (first | grind | omega))]
      show bin2 .Pow (some (.int o0)) (bin2 .Add (some (.int 1)) (binI .Mod (ns.length : Int) 2)) = _
      rw [mod_eq (b := 2) (by decide), hpar]
      exact ho
    have := ex_assign (W := W) (k := 85) (names := namesAt 100) (x := Str.ofString "other") (px := poE (asT (w 5))) (pos := poS (w 5)) (e := asE (w 5)) (ρ := v5 K ns dr ws) (od := none) (d := .int K.o) (fun env F => sD.e e5 (kindF F)) (fun env F => swaps_plain (by kernel_rfl)) (by first | kernel_rfl | decide +kernel) rfl (.inl rfl)
    rw [v6_set] at this
    exact this
  refine runs_app B sW (R.r67 ns dr ws) ?_
  refine ex_cons (st₁ := (v9 K ns dr ws [.int ((ns.sum.fdiv 4).fmod 100), .int ((ns.sum.fdiv 4).fmod 100), .int ((ns.sum.fdiv 4).fmod 100)], none)) (ex_freeze ?_) (runs_app B sL (R.r9 ns dr ws _) hc)
  show ExS W 85 (namesAt 100) (aS (Str.ofString "mixture") (w 8)) (setR (v8 K ns dr ws) (Str.ofString "planes") (.lst K.pls), none) _ _
  rw [v8_set]
  have e8 : (evs phiD 9).e (namesAt 100) (v8p K ns dr ws) (asE (w 8)) = some (.lst [.int ((ns.sum.fdiv 4).fmod 100), .int ((ns.sum.fdiv 4).fmod 100), .int ((ns.sum.fdiv 4).fmod 100)]) := by
    rw [w_8, cb_sum]
    exact grey_eq _
  have := ex_assign (W := W) (k := 85) (names := namesAt 100) (x := Str.ofString "mixture") (px := poE (asT (w 8))) (pos := poS (w 8)) (e := asE (w 8)) (ρ := v8p K ns dr ws) (od := none) (fun env F => sD.e e8 (kindF F)) (fun env F => swaps_plain (by kernel_rfl)) (by first | kernel_rfl | decide +kernel) rfl (.inl rfl)
  rw [v9_set] at this
  exact this
end
end Mine
end
section
open PySem PySem.W PySem.Calls PyProof.Rows PySem.Spec PySem.SeqAt PySem.SeqRoads2 PySem.MeetsSeq
set_option Elab.async false
set_option maxRecDepth 100000
set_option linter.unusedVariables false
namespace Mine
theorem addUp_eq (j : Nat) : ∀ (l : List Nat) (g : Int), addUp g j l = g + addUp 0 j l
  | [], g => by simp [addUp]
  | c :: l, g => by
    show addUp (g + if c = j then 1 else 0) j l = g + addUp (0 + if c = j then 1 else 0) j l
    rw [addUp_eq j l (g + _), addUp_eq j l (0 + _)]; (first | grind | omega)
noncomputable def z1 (K : Cs) (ns : List Int) (dr ws : List At) (r g b : Int) : Rho := v9 K ns dr ws [.int r, .int g, .int b] ++ [(Str.ofString "k", .int (K.p - 1)), (Str.ofString "quotient", .int K.q), (Str.ofString "rest", .int K.r), (Str.ofString "colour", .lst (K.c.map .int)),
  (Str.ofString "r", .int r), (Str.ofString "g", .int g), (Str.ofString "b", .int b)]
noncomputable def z2 (K : Cs) (ns : List Int) (dr ws : List At) (r g b : Int) (H S : UInt64) (M : Int) : Rho := z1 K ns dr ws r g b ++ [(Str.ofString "hue", .flt H), (Str.ofString "share", .flt S), (Str.ofString "light", .int M)]
noncomputable def z3 (K : Cs) (ns : List Int) (dr ws : List At) (r g b : Int) (H S : UInt64) (M t : Int) : Rho := z2 K ns dr ws r g b H S M ++ [(Str.ofString "turn", .int t)]
noncomputable def z5 (K : Cs) (ns : List Int) (dr ws : List At) (r g b : Int) (H S : UInt64) (M t x : Int) (o1 o2 o3 : At) : Rho := z3 K ns dr ws r g b H S M t ++ [(Str.ofString "weight", .int x), (Str.ofString "one", .at o1), (Str.ofString "two", .at o2), (Str.ofString "three", .at o3)]
noncomputable def z6 (K : Cs) (ns : List Int) (dr ws : List At) (r g b : Int) (H S : UInt64) (M t x : Int) (o1 o2 o3 : At) (wl : List At) : Rho := z5 K ns dr ws r g b H S M t x o1 o2 o3 ++ [(Str.ofString "wish", .lst wl)]
noncomputable def z7 (K : Cs) (ns : List Int) (dr ws : List At) (r g b : Int) (H S : UInt64) (M t x : Int) (o1 o2 o3 : At) (wl tl : List At) : Rho := z6 K ns dr ws r g b H S M t x o1 o2 o3 wl ++ [(Str.ofString "turned", .tup tl)]
noncomputable def xcol (c : Nat) : UInt64 := if c = 0 then 0 else if c = 1 then 0x3fd5555555555555 else 0x3fe5555555555555
noncomputable def turnH (H : UInt64) (c : Nat) : UInt64 := Float64.sub (Float64.add H (Float64.ofInt 1)) (xcol c)
noncomputable def turnT (t : Int) (c : Nat) : Int := t + (if c = 1 then 1 else 0) + 2 * (if c = 2 then 1 else 0)
structure NumK (K : Cs) : Prop where
  a : addUp 0 0 K.seq = K.a
  b : addUp 0 1 K.seq = K.b
  d : addUp 0 2 K.seq = K.d
theorem v11_eq {K : Cs} (N : NumK K) (ns : List Int) (dr ws : List At) (g : Int) : v11 K ns dr ws g = z1 K ns dr ws (g + K.a) (g + K.b) (g + K.d) := by
  unfold v11 z1 Cs.mix
  rw [addUp_eq 0, addUp_eq 1, addUp_eq 2, N.a, N.b, N.d]
theorem max3_shift (g a b d : Int) : max3 (g + a) (g + b) (g + d) = g + max3 a b d := by
  unfold max3
  simp only [gt_iff_lt, Int.add_lt_add_iff_left]
  split <;> split <;> rfl
theorem min3_shift (g a b d : Int) : min3 (g + a) (g + b) (g + d) = g + min3 a b d := by
  unfold min3
  simp only [Int.add_lt_add_iff_left]
  split <;> split <;> rfl
theorem sub_shift (g a b : Int) : g + a - (g + b) = a - b := by (first | grind | omega)
theorem beq_shift (g a b : Int) : (g + a == g + b) = (a == b) := by
  rw [Bool.eq_iff_iff]; simp
theorem hue_shift (g a b d M m : Int) : hueF (g + a) (g + b) (g + d) (g + M) (g + m) = hueF a b d M m := by
  unfold hueF hvF
  rw [beq_shift, beq_shift, sub_shift, sub_shift, sub_shift, sub_shift]
noncomputable def Cs.hi (K : Cs) : Int := max3 K.a K.b K.d
noncomputable def Cs.lo (K : Cs) : Int := min3 K.a K.b K.d
noncomputable def Cs.S (K : Cs) (g : Int) : UInt64 := divF (K.hi - K.lo) (g + K.hi)
section
variable (phi : Addr → List D → Option D) (K : Cs) (ns : List Int) (dr ws : List At) (r g b M t x y : Int) (H S : UInt64) (o1 o2 o3 p1 p2 p3 : At) (wl tl : List At)
theorem w_11a : (evs phi 9).e (namesAt 100) (z1 K ns dr ws r g b) (pA (asE (w 11)) 0) = some (.int r) := by kernel_rfl
theorem w_11b : (evs phi 9).e (namesAt 100) (z1 K ns dr ws r g b) (pA (asE (w 11)) 1) = some (.int g) := by kernel_rfl
theorem w_11c : (evs phi 9).e (namesAt 100) (z1 K ns dr ws r g b) (pA (asE (w 11)) 2) = some (.int b) := by kernel_rfl
theorem w_11s : setAll (z1 K ns dr ws r g b) [Str.ofString "hue", Str.ofString "share", Str.ofString "light"] [.flt H, .flt S, .int M] = z2 K ns dr ws r g b H S M := by kernel_rfl
theorem w_13 : runs (evs phi 9) (namesAt 100) 4 [w 13] (z2 K ns dr ws r g b H S M, none) = some ((z3 K ns dr ws r g b H S M 0, none), .next) := by kernel_rfl
theorem w_14i : iterD (evs phi 9) (namesAt 100) (z3 K ns dr ws r g b H S M t) (foI (w 14)) = some ws := by kernel_rfl
noncomputable def z4 (K : Cs) (ns : List Int) (dr ws : List At) (r g b : Int) (H S : UInt64) (M t x : Int) : Rho := z3 K ns dr ws r g b H S M t ++ [(Str.ofString "weight", .int x)]
theorem w_14a : setR (z3 K ns dr ws r g b H S M t) (Str.ofString "weight") (.int x) = z4 K ns dr ws r g b H S M t x := by kernel_rfl
theorem w_14b : setR (z5 K ns dr ws r g b H S M t y o1 o2 o3) (Str.ofString "weight") (.int x) = z5 K ns dr ws r g b H S M t x o1 o2 o3 := by kernel_rfl
theorem w_14c : (evs phi 9).e (namesAt 100) (z4 K ns dr ws r g b H S M t x) (asE (wB 0)) = phi 90 [.int x, .lst K.pls] := by kernel_rfl
theorem w_14d : (evs phi 9).e (namesAt 100) (z5 K ns dr ws r g b H S M t x o1 o2 o3) (asE (wB 0)) = phi 90 [.int x, .lst K.pls] := by kernel_rfl
theorem w_14e : setAll (z4 K ns dr ws r g b H S M t x) [Str.ofString "one", Str.ofString "two", Str.ofString "three"] [p1, p2, p3] = z5 K ns dr ws r g b H S M t x p1 p2 p3 := by kernel_rfl
theorem w_14f : setAll (z5 K ns dr ws r g b H S M t x o1 o2 o3) [Str.ofString "one", Str.ofString "two", Str.ofString "three"] [p1, p2, p3] = z5 K ns dr ws r g b H S M t x p1 p2 p3 := by kernel_rfl
noncomputable def hA (c j : Nat) : At := .int (if c = j then 1 else 0)
theorem w_140 : runs (evs phiW 9) (namesAt 100) 4 [wB 1] (z5 K ns dr ws r g b H S M t x (hA 0 0) (hA 0 1) (hA 0 2), none) = some ((z5 K ns dr ws r g b (turnH H 0) S M (turnT t 0) x (hA 0 0) (hA 0 1) (hA 0 2), none), .next) := by kernel_rfl
theorem w_141 : runs (evs phiW 9) (namesAt 100) 4 [wB 1] (z5 K ns dr ws r g b H S M t x (hA 1 0) (hA 1 1) (hA 1 2), none) = some ((z5 K ns dr ws r g b (turnH H 1) S M (turnT t 1) x (hA 1 0) (hA 1 1) (hA 1 2), none), .next) := by kernel_rfl
theorem w_142 : runs (evs phiW 9) (namesAt 100) 4 [wB 1] (z5 K ns dr ws r g b H S M t x (hA 2 0) (hA 2 1) (hA 2 2), none) = some ((z5 K ns dr ws r g b (turnH H 2) S M (turnT t 2) x (hA 2 0) (hA 2 1) (hA 2 2), none), .next) := by kernel_rfl
theorem w_14g (c : Nat) (hc : c < 3) : runs (evs phiW 9) (namesAt 100) 4 [wB 1] (z5 K ns dr ws r g b H S M t x (hA c 0) (hA c 1) (hA c 2), none) = some ((z5 K ns dr ws r g b (turnH H c) S M (turnT t c) x (hA c 0) (hA c 1) (hA c 2), none), .next) := by
  rcases lt3 hc with rfl | rfl | rfl
  · exact w_140 ..
  · exact w_141 ..
  · exact w_142 ..
end
section
variable {W : Wd} {P : Params}
theorem small_of' {x : Int} (h1 : -100000 ≤ x) (h2 : x ≤ 100000) : small x = true := by
  unfold small; rw [decide_eq_true_eq]; (first | grind | omega)
/-- the mixture's bounds -/
structure Bnd (K : Cs) : Prop where
  a : K.lo ≤ K.a ∧ K.a ≤ K.hi
  b : K.lo ≤ K.b ∧ K.b ≤ K.hi
  d : K.lo ≤ K.d ∧ K.d ≤ K.hi
  m : 0 ≤ K.lo ∧ K.lo < K.hi ∧ K.hi ≤ 100
theorem small_dif {g x y : Int} (h0 : 0 ≤ x) (h1 : x ≤ y) (h2 : y ≤ 100) : small (g + y - (g + x)) = true := by
  rw [sub_shift]; exact small_of' (by (first | grind | omega)) (by (first | grind | omega))
theorem w_hsv {K : Cs} (X : (hd.heap_39 P).In W.base) (B : BaseOK W) (FO : FlagsOK W) {ns : List Int} {dr ws : List At} {g : Int} (h0 : 0 ≤ g) (h1 : g < 100) (hb : Bnd K)
    (hh : hueF K.a K.b K.d K.hi K.lo = K.h) : ExS W 85 (namesAt 100) (.Assign [.Tuple (tuE (asT (w 11))) (tuK (asT (w 11))) (tuP (asT (w 11)))] (pCall (Str.ofString "rgb_to_hsv") (asE (w 11)) [pA (asE (w 11)) 0, pA (asE (w 11)) 1, pA (asE (w 11)) 2]) (poS (w 11)))
      (z1 K ns dr ws (g + K.a) (g + K.b) (g + K.d), none) (z2 K ns dr ws (g + K.a) (g + K.b) (g + K.d) K.h (K.S g) (g + K.hi), none) .next := by
  have hphi : PhiOK W 85 (fun _ _ => none) := fun f ds d h => nomatch h
  have sd := evs_sound (k := 85) (by (first | grind | omega)) B FO hphi 9
  obtain ⟨m1, m2, m3⟩ := hb.m
  have hc := hsv_call (W := W) (P := P) (k := 84) (r := g + K.a) (g := g + K.b) (b := g + K.d) (M := g + K.hi) (m := g + K.lo) (by decide) X B FO (max3_shift ..) (min3_shift ..) (fun e => Int.ne_of_lt m2 (Int.add_left_cancel e)) (Int.ne_of_gt (Int.add_pos_of_nonneg_of_pos h0 (Int.lt_of_le_of_lt m1 m2)))
    (small_dif m1 (Int.le_of_lt m2) m3) (small_dif (Int.le_trans m1 hb.a.1) hb.a.2 m3) (small_dif (Int.le_trans m1 hb.b.1) hb.b.2 m3) (small_dif (Int.le_trans m1 hb.d.1) hb.d.2 m3)
  rw [hue_shift, hh, sub_shift] at hc
  have := ex_tuple (W := W) (k := 85) (names := namesAt 100) (ts := tuE (asT (w 11))) (xs := [Str.ofString "hue", Str.ofString "share", Str.ofString "light"]) (k1 := tuK (asT (w 11))) (p1 := tuP (asT (w 11))) (pos := poS (w 11)) (e := pCall (Str.ofString "rgb_to_hsv") (asE (w 11)) [pA (asE (w 11)) 0, pA (asE (w 11)) 1, pA (asE (w 11)) 2])
    (ρ := z1 K ns dr ws (g + K.a) (g + K.b) (g + K.d)) (od := none) (d := .tup [.flt K.h, .flt (K.S g), .int (g + K.hi)]) (as := [.flt K.h, .flt (K.S g), .int (g + K.hi)]) (by kernel_rfl)
    (fun env F => ev_callF B (kgx F _ (by first | kernel_rfl | decide +kernel)) (show GL.lookup (Str.ofString "rgb_to_hsv") = some (.fn 21) from by first | kernel_rfl | decide +kernel) (.cons (by kernel_rfl) (sd.e (w_11a ..) (kindF F)) (.cons (by kernel_rfl) (sd.e (w_11b ..) (kindF F)) (.cons (by kernel_rfl) (sd.e (w_11c ..) (kindF F)) .nil))) hc) rfl rfl (fun x hx => by
        have : [Str.ofString "hue", Str.ofString "share", Str.ofString "light"].all (fun x => okStore (namesAt 100) none x) = true := by first | kernel_rfl | decide +kernel
        exact List.all_eq_true.mp this x hx) (fun env F => swapped_none (by kernel_rfl))
  rw [w_11s] at this
  exact this

theorem phiL_at {K : Cs} {x : Int} (h : eqTx K.pls K.pls = true) (h1 : 1 ≤ x) (h2 : x < K.p) : phiL K 90 [.int x, .lst K.pls] = some (.lst (hot (K.clx x))) := by
  show (if (eqTx K.pls K.pls && decide (1 ≤ x) && decide (x < K.p)) = true then some (D.lst (hot (K.clx x))) else none) = _
  rw [h, decide_eq_true h1, decide_eq_true h2]; rfl
theorem wB_ok : [Str.ofString "one", Str.ofString "two", Str.ofString "three"].all (fun x => okStore (namesAt 100) none x) = true := by first | kernel_rfl | decide +kernel
theorem ww_ok : okStore (namesAt 100) none (Str.ofString "weight") = true := by first | kernel_rfl | decide +kernel
/-- one turn: a weight's colour -/
theorem w_turn {K : Cs} (X : (hd.heap_39 P).In W.base) (B : BaseOK W) (FO : FlagsOK W) (N : NestOK W) (F : FactK K) (hq : eqTx K.pls K.pls = true) {x : Int} (h1 : 1 ≤ x) (h2 : x < K.p) (hc : K.clx x < 3) {ns : List Int} {dr ws : List At} {r g b M t : Int} {H S : UInt64} {ρ : Rho}
    (he : (evs (phiL K) 9).e (namesAt 100) ρ (asE (wB 0)) = phiL K 90 [.int x, .lst K.pls]) (hs : ∀ p1 p2 p3, setAll ρ [Str.ofString "one", Str.ofString "two", Str.ofString "three"] [p1, p2, p3] = z5 K ns dr ws r g b H S M t x p1 p2 p3) :
    ExL W 85 (namesAt 100) [.Assign [.Tuple (tuE (asT (wB 0))) (tuK (asT (wB 0))) (tuP (asT (wB 0)))] (asE (wB 0)) (poS (wB 0)), wB 1] (ρ, none)
      (z5 K ns dr ws r g b (turnH H (K.clx x)) S M (turnT t (K.clx x)) x (hA (K.clx x) 0) (hA (K.clx x) 1) (hA (K.clx x) 2), none) .next := by
  have pL := phiL_ok X B FO N F
  have pW : PhiOK W 85 phiW := (phiW_ok X B FO N).mono (by (first | grind | omega))
  have sL := evs_sound (k := 85) (by (first | grind | omega)) B FO pL 9
  have sW := evs_sound (k := 85) (by (first | grind | omega)) B FO pW 9
  refine ex_cons (st₁ := (z5 K ns dr ws r g b H S M t x (hA (K.clx x) 0) (hA (K.clx x) 1) (hA (K.clx x) 2), none)) ?_ (runs_sound B sW 4 (w_14g _ _ _ _ _ _ _ _ _ _ _ _ _ hc))
  have := ex_tuple (W := W) (k := 85) (names := namesAt 100) (ts := tuE (asT (wB 0))) (xs := [Str.ofString "one", Str.ofString "two", Str.ofString "three"]) (k1 := tuK (asT (wB 0))) (p1 := tuP (asT (wB 0))) (pos := poS (wB 0)) (e := asE (wB 0))
    (ρ := ρ) (od := none) (d := .lst (hot (K.clx x))) (as := hot (K.clx x)) (by kernel_rfl) (fun env F => sL.e (he.trans (phiL_at hq h1 h2)) (kindF F)) rfl rfl (fun x hx => List.all_eq_true.mp wB_ok x hx) (fun env F => swapped_none (by kernel_rfl))
  have e := hs (hA (K.clx x) 0) (hA (K.clx x) 1) (hA (K.clx x) 2)
  rw [show setAll ρ [Str.ofString "one", Str.ofString "two", Str.ofString "three"] (hot (K.clx x)) = z5 K ns dr ws r g b H S M t x (hA (K.clx x) 0) (hA (K.clx x) 1) (hA (K.clx x) 2) from e] at this
  exact this
noncomputable def hue3 (H : UInt64) (c1 c2 c3 : Nat) : UInt64 := turnH (turnH (turnH H c1) c2) c3
noncomputable def turn3 (c1 c2 c3 : Nat) : Int := turnT (turnT (turnT 0 c1) c2) c3
theorem w_turns {K : Cs} (X : (hd.heap_39 P).In W.base) (B : BaseOK W) (FO : FlagsOK W) (N : NestOK W) (F : FactK K) (hq : eqTx K.pls K.pls = true) (hcl : ∀ x, 1 ≤ x → x < K.p → K.clx x < 3) {u v y : Int} (hu : 1 ≤ u ∧ u < K.p) (hv : 1 ≤ v ∧ v < K.p) (hy : 1 ≤ y ∧ y < K.p)
    {ns : List Int} {dr : List At} {r g b M : Int} {H S : UInt64} :
    ExS W 85 (namesAt 100) (.For (.Name (Str.ofString "weight") (poE (foT (w 14)))) (foI (w 14)) [.Assign [.Tuple (tuE (asT (wB 0))) (tuK (asT (wB 0))) (tuP (asT (wB 0)))] (asE (wB 0)) (poS (wB 0)), wB 1] [] (foP (w 14))) (z3 K ns dr [.int u, .int v, .int y] r g b H S M 0, none)
      (z5 K ns dr [.int u, .int v, .int y] r g b (hue3 H (K.clx u) (K.clx v) (K.clx y)) S M (turn3 (K.clx u) (K.clx v) (K.clx y)) y (hA (K.clx y) 0) (hA (K.clx y) 1) (hA (K.clx y) 2), none) .next := by
  have hphi : PhiOK W 85 (fun _ _ => none) := fun f ds d h => nomatch h
  have sd := evs_sound (k := 85) (by (first | grind | omega)) B FO hphi 9
  refine ex_for (fun env F => iterD_sound B sd (w_14i ..) F) (by kernel_rfl) (.inl rfl) ?_
  let P1 : Rho := z5 K ns dr [.int u, .int v, .int y] r g b (turnH H (K.clx u)) S M (turnT 0 (K.clx u)) u (hA (K.clx u) 0) (hA (K.clx u) 1) (hA (K.clx u) 2)
  let P2 : Rho := z5 K ns dr [.int u, .int v, .int y] r g b (turnH (turnH H (K.clx u)) (K.clx v)) S M (turnT (turnT 0 (K.clx u)) (K.clx v)) v (hA (K.clx v) 0) (hA (K.clx v) 1) (hA (K.clx v) 2)
  refine .turn (od := none) (st₁ := (P1, none)) ww_ok ?_ (.turn (od := none) (st₁ := (P2, none)) ww_ok ?_ (.turn (od := none) ww_ok ?_ (.done ex_nil)))
  · rw [w_14a]
    exact w_turn X B FO N F hq hu.1 hu.2 (hcl _ hu.1 hu.2) (w_14c ..) fun p1 p2 p3 => w_14e ..
  · rw [w_14b]
    exact w_turn X B FO N F hq hv.1 hv.2 (hcl _ hv.1 hv.2) (w_14d ..) fun p1 p2 p3 => w_14f ..
  · rw [w_14b]
    exact w_turn X B FO N F hq hy.1 hy.2 (hcl _ hy.1 hy.2) (w_14d ..) fun p1 p2 p3 => w_14f ..
end
end Mine
end
section
open PySem PySem.W PySem.Calls PyProof.Rows PySem.Spec PySem.SeqAt PySem.SeqRoads2 PySem.MeetsSeq
set_option Elab.async false
set_option maxRecDepth 100000
set_option linter.unusedVariables false
namespace Mine
noncomputable def cmL (e : Expr) : Expr := exN e 0
noncomputable def cmR (e : Expr) : Expr := exN e 1
noncomputable def cmP (e : Expr) : Pos := poE e
noncomputable def rot (τ : Nat) (r g b : Int) : List At := match τ with
  | 0 => [.int r, .int g, .int b]
  | 1 => [.int g, .int b, .int r]
  | _ => [.int b, .int r, .int g]
noncomputable def w16R : Expr := cmR (ifT (w 16))
noncomputable def w16C : Expr := biL (biL w16R)
theorem w16_eq : ifT (w 16) = .Compare (cmL (ifT (w 16))) [.NotEq] [.BinOp (.BinOp (pCall (Str.ofString "_law_points") w16C [pA w16C 0, pA w16C 1, pA w16C 2, pA w16C 3]) .Sub (biR (biL w16R)) (biP (biL w16R))) .Sub (biR w16R) (biP w16R)] (cmP (ifT (w 16))) := by kernel_rfl
theorem w20_eq : reE (w 20) = .Compare (cmL (reE (w 20))) [.Eq] [cmR (reE (w 20))] (cmP (reE (w 20))) := by kernel_rfl
section
variable (phi : Addr → List D → Option D) (K : Cs) (ns : List Int) (dr ws : List At) (r g b M t x y u v w0 w1 w2 : Int) (H S : UInt64) (o1 o2 o3 p1 p2 p3 : At) (wl tl : List At)
theorem w_15 : (evs phi 9).e (namesAt 100) (z5 K ns dr ws r g b H S M t x o1 o2 o3) (asE (w 15)) = bin2 .Add (slc [.int r, .int g, .int b] (some (t.fmod 3)) none none) (slc [.int r, .int g, .int b] none (some (t.fmod 3)) none) := by kernel_rfl
theorem w_150 : bin2 .Add (slc [.int r, .int g, .int b] (some 0) none none) (slc [.int r, .int g, .int b] none (some 0) none) = some (.lst [.int r, .int g, .int b]) := by kernel_rfl
theorem w_151 : bin2 .Add (slc [.int r, .int g, .int b] (some 1) none none) (slc [.int r, .int g, .int b] none (some 1) none) = some (.lst [.int g, .int b, .int r]) := by kernel_rfl
theorem w_152 : bin2 .Add (slc [.int r, .int g, .int b] (some 2) none none) (slc [.int r, .int g, .int b] none (some 2) none) = some (.lst [.int b, .int r, .int g]) := by kernel_rfl
theorem w_15s : setR (z5 K ns dr ws r g b H S M t x o1 o2 o3) (Str.ofString "wish") (.lst wl) = z6 K ns dr ws r g b H S M t x o1 o2 o3 wl := by kernel_rfl
theorem w_16l : (evs phi 9).e (namesAt 100) (z6 K ns dr ws r g b H S M t x o1 o2 o3 [.int w0, .int w1, .int w2]) (cmL (ifT (w 16))) = some (.int (2 * w0 - w1 - w2)) := by kernel_rfl
theorem w_16a : (evs phi 9).e (namesAt 100) (z6 K ns dr [.int u, .int v, .int y] r g b H S M t x o1 o2 o3 wl) (pA w16C 0) = some (.int u) := by kernel_rfl
theorem w_16b : (evs phi 9).e (namesAt 100) (z6 K ns dr [.int u, .int v, .int y] r g b H S M t x o1 o2 o3 wl) (pA w16C 1) = some (.int v) := by kernel_rfl
theorem w_16c : (evs phi 9).e (namesAt 100) (z6 K ns dr [.int u, .int v, .int y] r g b H S M t x o1 o2 o3 wl) (pA w16C 2) = some (.int y) := by kernel_rfl
theorem w_16d : (evs phi 9).e (namesAt 100) (z6 K ns dr ws r g b H S M t x o1 o2 o3 wl) (pA w16C 3) = some (.int K.p) := by kernel_rfl
theorem w_16e : (evs phi 9).e (namesAt 100) (z6 K ns dr ws r g b H S M t x o1 o2 o3 wl) (biR (biL w16R)) = some (.int K.p) := by kernel_rfl
theorem w_16f : (evs phi 9).e (namesAt 100) (z6 K ns dr ws r g b H S M t x o1 o2 o3 wl) (biR w16R) = some (.int 1) := by kernel_rfl
theorem w_17a : (evs phi 9).e (namesAt 100) (z6 K ns dr ws r g b H S M t x o1 o2 o3 wl) (pA (asE (w 17)) 0) = some (.flt H) := by kernel_rfl
theorem w_17b : (evs phi 9).e (namesAt 100) (z6 K ns dr ws r g b H S M t x o1 o2 o3 wl) (pA (asE (w 17)) 1) = some (.flt S) := by kernel_rfl
theorem w_17c : (evs phi 9).e (namesAt 100) (z6 K ns dr ws r g b H S M t x o1 o2 o3 wl) (pA (asE (w 17)) 2) = some (.int M) := by kernel_rfl
theorem w_17s : setR (z6 K ns dr ws r g b H S M t x o1 o2 o3 wl) (Str.ofString "turned") (.tup tl) = z7 K ns dr ws r g b H S M t x o1 o2 o3 wl tl := by kernel_rfl
theorem w_19 : (evs phi 9).t (namesAt 100) (z7 K ns dr ws r g b H S M t x o1 o2 o3 wl tl) (ifT (w 19)) = cm2 .NotEq (bin2 .Sub (bin2 .Sub (bin2 .Sub (bin2 .Add (bin2 .Add (binI .Mult r r) (binI .Mult g g)) (binI .Mult b b)) (binI .Mult r g)) (binI .Mult g b)) (binI .Mult b r)) (some (.int K.p)) := by kernel_rfl
theorem w_20l : (evs phi 9).e (namesAt 100) (z7 K ns dr ws r g b H S M t x o1 o2 o3 wl tl) (cmL (reE (w 20))) = methD (Str.ofString "split") (.str K.p0) [.str (Str.ofString ", ")] := by kernel_rfl
noncomputable def f20 (phi : Addr → List D → Option D) (ρ : Rho) (a : At) : Option D := (evs phi 8).e (coN (cmR (reE (w 20)))) ((Str.ofString "k", .at a) :: innerOf (coN (cmR (reE (w 20)))) ρ) (coE (cmR (reE (w 20))))
theorem w_20r : (evs phi 9).e (namesAt 100) (z7 K ns dr ws r g b H S M t x o1 o2 o3 wl tl) (cmR (reE (w 20))) = lc1 (K.rs.map .int) (compD (f20 phi (z7 K ns dr ws r g b H S M t x o1 o2 o3 wl tl)) (fun _ => some true) (K.rs.map .int)) := by kernel_rfl
theorem w_20f : f20 phi (z7 K ns dr ws r g b H S M t x o1 o2 o3 wl tl) (.int y) = phi 85 [.int y] := by kernel_rfl
end
theorem turn3_mod {c1 c2 c3 : Nat} (h1 : c1 < 3) (h2 : c2 < 3) (h3 : c3 < 3) : (turn3 c1 c2 c3).fmod 3 = (((c1 + c2 + c3) % 3 : Nat) : Int) := by
  have : ∀ c1 < 3, ∀ c2 < 3, ∀ c3 < 3, (turn3 c1 c2 c3).fmod 3 = (((c1 + c2 + c3) % 3 : Nat) : Int) := by first | kernel_rfl | decide +kernel
  exact this c1 h1 c2 h2 c3 h3
section
variable {W : Wd} {P : Params} {K : Cs} {ns : List Int} {dr ws : List At} {r g b M t x y u v : Int} {H S : UInt64} {o1 o2 o3 : At} {wl tl : List At}
theorem w_wish (B : BaseOK W) (FO : FlagsOK W) {τ : Nat} (hτ : τ < 3) (ht : t.fmod 3 = τ) : ExS W 85 (namesAt 100) (aS (Str.ofString "wish") (w 15)) (z5 K ns dr ws r g b H S M t x o1 o2 o3, none) (z6 K ns dr ws r g b H S M t x o1 o2 o3 (rot τ r g b), none) .next := by
  have hphi : PhiOK W 85 (fun _ _ => none) := fun f ds d h => nomatch h
  have sd := evs_sound (k := 85) (by (first | grind | omega)) B FO hphi 9
  have e : (evs (fun _ _ => none) 9).e (namesAt 100) (z5 K ns dr ws r g b H S M t x o1 o2 o3) (asE (w 15)) = some (.lst (rot τ r g b)) := by
    rw [w_15, ht]
    rcases lt3 hτ with rfl | rfl | rfl
    · exact w_150 ..
    · exact w_151 ..
    · exact w_152 ..
  have := ex_assign (W := W) (k := 85) (names := namesAt 100) (x := Str.ofString "wish") (px := poE (asT (w 15))) (pos := poS (w 15)) (e := asE (w 15)) (ρ := z5 K ns dr ws r g b H S M t x o1 o2 o3) (od := none) (fun env F => sd.e e (kindF F)) (fun env F => swaps_plain (by kernel_rfl)) (by first | kernel_rfl | decide +kernel) rfl (.inl rfl)
  rw [w_15s] at this
  exact this
/-- a test that does not leave -/
theorem ex_pass {i : Nat} {ρ : Rho} (h : ∀ env, FEnv (namesAt 100) env → TsTo W 85 env ρ (ifT (w i)) false) : ExS W 85 (namesAt 100) (ifS i) (ρ, none) (ρ, none) .next := ex_if (c := false) h ex_nil
theorem w_points (X : (hd.heap_39 P).In W.base) (B : BaseOK W) (FO : FlagsOK W) {w0 w1 w2 : Int} (su : small u = true) (sv : small v = true) (hp : K.p ≠ 0) (hl : K.cs.length ≤ 100000) (hc : compV (evs (fun _ _ => none) 9) (namesAt 95) (q0 u v y K.p) (asE (qS 0)) = some (K.cs.map .int))
    (hw : 2 * w0 - w1 - w2 = ptsI u v y K.cs K.p - K.p - 1) : ExS W 85 (namesAt 100) (ifS 16) (z6 K ns dr [.int u, .int v, .int y] r g b H S M t x o1 o2 o3 [.int w0, .int w1, .int w2], none) (z6 K ns dr [.int u, .int v, .int y] r g b H S M t x o1 o2 o3 [.int w0, .int w1, .int w2], none) .next := by
  have hphi : PhiOK W 85 (fun _ _ => none) := fun f ds d h => nomatch h
  have sd := evs_sound (k := 85) (by (first | grind | omega)) B FO hphi 9
  refine ex_pass fun env F => ?_
  rw [w16_eq]
  refine ts_cmp (sd.e (w_16l ..) (kindF F)) (ev_bin (b := .int 1) (ev_bin (a := .int (ptsI u v y K.cs K.p)) (b := .int K.p) (d := .int (ptsI u v y K.cs K.p - K.p)) (ev_callF B (kgx F _ (by first | kernel_rfl | decide +kernel)) (show GL.lookup (Str.ofString "_law_points") = some (.fn 95) from by first | kernel_rfl | decide +kernel)
    (.cons (by kernel_rfl) (sd.e (w_16a ..) (kindF F)) (.cons (by kernel_rfl) (sd.e (w_16b ..) (kindF F)) (.cons (by kernel_rfl) (sd.e (w_16c ..) (kindF F)) (.cons (by kernel_rfl) (sd.e (w_16d ..) (kindF F)) .nil))))
    (pts_call (k := 84) (by (first | grind | omega)) X B FO su sv hp hl hc)) (sd.e (w_16e ..) (kindF F)) (bin_sound rfl)) (sd.e (w_16f ..) (kindF F)) (d := .int (ptsI u v y K.cs K.p - K.p - 1)) (bin_sound rfl)) ?_ (by kernel_rfl)
  rw [← hw]
  exact cmp_sound (by (first | grind | omega)) (by show some (2 * w0 - w1 - w2 != 2 * w0 - w1 - w2) = some false; simp)
theorem w_turned (X : (hd.heap_39 P).In W.base) (B : BaseOK W) (FO : FlagsOK W) {I : Int} {j : Nat} (hS : (Float64.cmp S 0 == some Ordering.eq) = false) (hI : truncD (six H) = some (.int I)) (sI : small I = true) (sM : small M = true) (hj : I.fmod 6 = j) (hj6 : j < 6) :
    ExS W 85 (namesAt 100) (.Assign [.Name (Str.ofString "turned") (poE (asT (w 17)))] (pCall (Str.ofString "hsv_to_rgb") (asE (w 17)) [pA (asE (w 17)) 0, pA (asE (w 17)) 1, pA (asE (w 17)) 2]) (poS (w 17)))
      (z6 K ns dr ws r g b H S M t x o1 o2 o3 wl, none) (z7 K ns dr ws r g b H S M t x o1 o2 o3 wl (outF j M (vF M S) (vF M (Float64.mul S (fracF H I))) (vF M (Float64.mul S (Float64.sub 0x3ff0000000000000 (fracF H I))))), none) .next := by
  have hphi : PhiOK W 85 (fun _ _ => none) := fun f ds d h => nomatch h
  have sd := evs_sound (k := 85) (by (first | grind | omega)) B FO hphi 9
  have := ex_assign (W := W) (k := 85) (names := namesAt 100) (x := Str.ofString "turned") (px := poE (asT (w 17))) (pos := poS (w 17)) (e := pCall (Str.ofString "hsv_to_rgb") (asE (w 17)) [pA (asE (w 17)) 0, pA (asE (w 17)) 1, pA (asE (w 17)) 2]) (ρ := z6 K ns dr ws r g b H S M t x o1 o2 o3 wl) (od := none)
    (fun env F => ev_callF B (kgx F _ (by first | kernel_rfl | decide +kernel)) (show GL.lookup (Str.ofString "hsv_to_rgb") = some (.fn 28) from by first | kernel_rfl | decide +kernel) (.cons (by kernel_rfl) (sd.e (w_17a ..) (kindF F)) (.cons (by kernel_rfl) (sd.e (w_17b ..) (kindF F)) (.cons (by kernel_rfl) (sd.e (w_17c ..) (kindF F)) .nil)))
      (rgb_call (k := 84) (by (first | grind | omega)) X B FO hS hI sI sM hj hj6)) (fun env F => swaps_plain rfl) (by first | kernel_rfl | decide +kernel) rfl (.inl rfl)
  rw [w_17s] at this
  exact this
theorem w_norm (B : BaseOK W) (FO : FlagsOK W) (sr : small r = true) (sg : small g = true) (sb : small b = true) (h : r * r + g * g + b * b - r * g - g * b - b * r = K.p) : ExS W 85 (namesAt 100) (ifS 19) (z7 K ns dr ws r g b H S M t x o1 o2 o3 wl tl, none) (z7 K ns dr ws r g b H S M t x o1 o2 o3 wl tl, none) .next := by
  have hphi : PhiOK W 85 (fun _ _ => none) := fun f ds d h => nomatch h
  have sd := evs_sound (k := 85) (by (first | grind | omega)) B FO hphi 9
  refine ex_pass fun env F => sd.t ?_ (kindF F)
  rw [w_19, mul_eq (.inl sr), mul_eq (.inl sg), mul_eq (.inl sb), mul_eq (.inl sr), mul_eq (.inl sg), mul_eq (.inl sb)]
  show some (r * r + g * g + b * b - r * g - g * b - b * r != K.p) = some false
  rw [h]; simp
theorem w_words (X : (hd.heap_39 P).In W.base) (B : BaseOK W) (FO : FlagsOK W) (N : NestOK W) (F : FactK K) (hrs : K.rs = K.m0.map Int.ofNat) (hm : ∀ m ∈ K.m0, 1 ≤ m) (hok : (K.m0.map wd).all PyData.strOk = true) :
    ExS W 85 (namesAt 100) (.Return (some (reE (w 20))) (poS (w 20))) (z7 K ns dr ws r g b H S M t x o1 o2 o3 wl tl, none) (z7 K ns dr ws r g b H S M t x o1 o2 o3 wl tl, none) (.ret (.bool true)) := by
  have pW : PhiOK W 85 phiW := (phiW_ok X B FO N).mono (by (first | grind | omega))
  have sd := evs_sound (k := 85) (by (first | grind | omega)) B FO pW 9
  have el : (evs phiW 9).e (namesAt 100) (z7 K ns dr ws r g b H S M t x o1 o2 o3 wl tl) (cmL (reE (w 20))) = some (.lst ((K.m0.map wd).map .str)) := by
    rw [w_20l]
    exact split_eq F.s0 (F.lp _ (.head _)) (by rw [List.length_map]; exact (F.lm _ (.head _)).1)
  have er : (evs phiW 9).e (namesAt 100) (z7 K ns dr ws r g b H S M t x o1 o2 o3 wl tl) (cmR (reE (w 20))) = some (.lst ((K.m0.map wd).map .str)) := by
    rw [w_20r]
    refine lc1_eq (by rw [hrs, List.length_map]; exact (F.lm _ (.head _)).1) ?_
    rw [hrs]
    have : (K.m0.map wd).map At.str = (K.m0.map Int.ofNat).map fun i => At.str (wd i.toNat) := by
      rw [List.map_map, List.map_map]; rfl
    rw [this]
    refine compD_map (fun c hc => ?_) fun c _ => rfl
    obtain ⟨m, hm', rfl⟩ := List.mem_map.mp hc
    rw [w_20f]
    exact words_ok m (hm m hm') ((F.lm _ (.head _)).2 m hm')
  refine ex_return fun env Fe => ?_
  rw [w20_eq]
  refine ev_cmp (sd.e el (kindF Fe)) (sd.e er (kindF Fe)) (cmp_sound (by (first | grind | omega)) ?_) (by kernel_rfl)
  show ((strsOf ((K.m0.map wd).map At.str)).bind fun ns => if (decide ((K.m0.map wd).map At.str = (K.m0.map wd).map At.str) && ns.all PyData.strOk) = true then some true else none) = some true
  rw [strsOf_map]
  show (if (decide ((K.m0.map wd).map At.str = (K.m0.map wd).map At.str) && (K.m0.map wd).all PyData.strOk) = true then some true else none) = some true
  rw [hok, decide_eq_true rfl]; rfl
end
end Mine
end
section
open PySem PySem.W PySem.Calls PyProof.Rows PySem.Spec PySem.SeqAt PySem.SeqRoads2 PySem.MeetsSeq
set_option Elab.async false
set_option maxRecDepth 100000
set_option linter.unusedVariables false
namespace Mine
inductive Num : At → Prop
  | i (x : Int) : Num (.int x)
  | f (x : UInt64) : Num (.flt x)
noncomputable def gtA (a b : At) : Bool := match a, b with
  | .int a, .int b => decide (a > b)
  | .flt a, .flt b => Float64.cmp a b == some Ordering.gt
  | .flt a, .int n => Float64.cmpInt a n == some Ordering.gt
  | .int n, .flt a => Float64.cmpInt a n == some Ordering.lt
  | _, _ => false
theorem cmp_gt_num {prog : Program} {w : World} {A : Around} {P : Nat → Value → Prop} (val : Nat → At) (hval : ∀ i v, P i v → Num (val i) ∧ ARep v (val i)) : CmpOf prog w A .Gt P (fun i j => gtA (val i) (val j)) := fun i j vi vj s Q E hi hj h => by
  obtain ⟨n1, r1⟩ := hval i vi hi
  obtain ⟨n2, r2⟩ := hval j vj hj
  replace h : Q (.bool (gtA (val i) (val j))) s := h
  generalize val i = a at n1 r1 h
  generalize val j = b at n2 r2 h
  cases n1 with
  | i x =>
    obtain ⟨t, rfl⟩ := r1
    cases n2 with
    | i y =>
      obtain ⟨u, rfl⟩ := r2
      exact richCompare_gives (op := .Gt) (typeIs_int s _ t) (typeIs_int s _ u) PySem.F.slot_int_gt PySem.F.entry_int_gt (PySem.F.args_int_gt_2 _ _) (gives_int_gt _ _ t u) (fun x => nomatch x) h
    | f y =>
      obtain ⟨u, rfl⟩ := r2
      exact gt_if h
  | f x =>
    obtain ⟨t, rfl⟩ := r1
    cases n2 with
    | i y =>
      obtain ⟨u, rfl⟩ := r2
      exact gt_fi h
    | f y =>
      obtain ⟨u, rfl⟩ := r2
      exact richCompare_gives (op := .Gt) (typeIs_float s _ t) (typeIs_float s _ u) F.slot_float_gt F.entry_float_gt (F.args_float_gt_2 _ _) (AutoFloatG4.float___gt___float_float_0 _ t _ u) (fun x => nomatch x) h
/-- an absolute value -/
inductive AbsTo : At → At → Prop
  | i (x : Int) : AbsTo (.int x) (.int (if x < 0 then -x else x))
  | f (x : UInt64) : AbsTo (.flt x) (.flt (Float64.abs x))
theorem AbsTo.num {s e : At} (h : AbsTo s e) : Num e := by
  cases h with
  | i x => exact .i _
  | f x => exact .f _
section
variable {W : Wd} {k : Nat} {P : Params}
theorem op_abs {s e : At} (h : AbsTo s e) : OpL W k (fun vs => call (.builtin "abs") vs) [.at s] (.at e) := fun A s' vs Q rm ok r q => by
  obtain ⟨v, rfl, rv⟩ := reps1 r
  cases h with
  | i x =>
    obtain ⟨t, rfl⟩ : ∃ t, v = .int x t := rv
    exact call_abs_int fun u tk => q _ _ .toks ⟨_, rfl⟩
  | f x =>
    obtain ⟨t, rfl⟩ : ∃ t, v = .float x t := rv
    exact Flt.call_abs_float (q _ _ .toks ⟨_, rfl⟩)
/-- the greatest is one of them -/
theorem op_max {as : List At} (hn : ∀ a ∈ as, Num a) (hne : as ≠ []) : ∃ a ∈ as, OpL W k (fun vs => call (.builtin "max") vs) [.lst as] (.at a) := by
  have hpos : 0 < as.length := by cases as with | nil => exact absurd rfl hne | cons => simp
  let val : Nat → At := fun i => as.getD i .none
  let bt : Nat → Nat → Bool := fun i j => gtA (val i) (val j)
  have hb : argBest bt (as.length - 1) < as.length := by
    have : ∀ n, argBest bt n ≤ n := fun n => by
      induction n with
      | zero => exact Nat.le_refl _
      | succ n ih => unfold argBest; split <;> (first | grind | omega)
    have := this (as.length - 1)
    (first | grind | omega)
  refine ⟨val (argBest bt (as.length - 1)), ?_, fun A s vs Q rm ok r q => ?_⟩
  · show as.getD _ _ ∈ as
    rw [List.getD_eq_getElem?_getD, List.getElem?_eq_getElem hb]
    exact List.getElem_mem hb
  obtain ⟨v, rfl, p, vs, n, rfl, hp, rp⟩ := reps1 r
  have el : vs.length = as.length := rp.length
  have hv : ∀ i v, vs[i]? = some v → Num (val i) ∧ ARep v (val i) := fun i v h => by
    obtain ⟨a, ha, ra⟩ := rp.at h
    have e : val i = a := by
      show as.getD i .none = a
      rw [List.getD_eq_getElem?_getD, ha]; rfl
    rw [e]
    exact ⟨hn a (List.mem_of_getElem? ha), ra⟩
  refine call_max_walk (iter_raw (A := A.in1) rm.1 (of_gh hp) fun w st fpl => ⟨_, _, _, _, _, _, bt, rfl, w, st, fpl, by (first | grind | omega), cmp_gt_num val hv, fun v h' tk hv' hk => ?_⟩)
  rw [el] at hv'
  exact q _ _ (ext_old hk) (hv _ _ hv').2
end
/-- near enough -/
noncomputable def Good (e : At) : Prop := ∃ d, binD .Mult (.at e) (.int 1048576) = some (.at d) ∧ cmpD .GtE (.at d) (.int 1) = some false
noncomputable def Fine (t : At) (w : Int) : Prop := ∃ s e, binD .Sub (.at t) (.int w) = some (.at s) ∧ AbsTo s e ∧ Good e
noncomputable def w18M : Expr := biL (cmL (ifT (w 18)))
noncomputable def w18L : Expr := pA w18M 0
noncomputable def w18E : Expr := coE w18L
theorem w18_eq : ifT (w 18) = .Compare (.BinOp (.Call (.Name (Str.ofString "max") (poE (caF w18M))) [.ListComp (.Call (.Name (Str.ofString "abs") (poE (caF w18E))) [pA w18E 0] [] (poE w18E)) [⟨.Name (Str.ofString "i") (poE (coT w18L)), coI w18L, [], 0⟩] (coS w18L) (coP w18L)] [] (poE w18M)) .Mult (biR (cmL (ifT (w 18)))) (biP (cmL (ifT (w 18))))) [.GtE] [cmR (ifT (w 18))] (cmP (ifT (w 18))) := by kernel_rfl
theorem w_18n : ∀ y ∈ (coS w18L).names, y.2 ≠ .cell := by
  have h : (coS w18L).names.all (fun y => y.2 != .cell) = true := by first | kernel_rfl | decide +kernel
  intro y hy
  have := List.all_eq_true.mp h y hy
  simpa using this
noncomputable def f18 (phi : Addr → List D → Option D) (ρ : Rho) (j : Int) : Option D := (evs phi 9).e (coS w18L).names ((Str.ofString "i", .int j) :: innerOf (coS w18L).names ρ) (pA w18E 0)
noncomputable def it2 (a : D) (x : Option D) : Option D := match x with | some b => itemD a b | none => none
section
variable (phi : Addr → List D → Option D) (K : Cs) (ns : List Int) (dr ws : List At) (r g b M t x j : Int) (H S : UInt64) (o1 o2 o3 : At) (wl tl : List At)
theorem w_18l : compLook (coS w18L).names (namesAt 100) (coS w18L).kind (Str.ofString "i") (z7 K ns dr ws r g b H S M t x o1 o2 o3 wl tl) = true := by kernel_rfl
theorem w_18i : (evs phi 9).e (namesAt 100) (z7 K ns dr ws r g b H S M t x o1 o2 o3 wl tl) (coI w18L) = some (.rng 0 3) := by kernel_rfl
theorem w_18f : f18 phi (z7 K ns dr ws r g b H S M t x o1 o2 o3 wl tl) j = bin2 .Sub (itemD (.tup tl) (.int j)) (itemD (.lst wl) (.int j)) := by kernel_rfl
theorem w_18p : (evs phi 9).e (namesAt 100) (z7 K ns dr ws r g b H S M t x o1 o2 o3 wl tl) (biR (cmL (ifT (w 18)))) = some (.int 1048576) := by kernel_rfl
theorem w_18o : (evs phi 9).e (namesAt 100) (z7 K ns dr ws r g b H S M t x o1 o2 o3 wl tl) (cmR (ifT (w 18))) = some (.int 1) := by kernel_rfl
end
theorem rng3 : rngList 0 3 = [.int 0, .int 1, .int 2] := by decide
section
variable {W : Wd} {P : Params} {K : Cs} {ns : List Int} {dr ws : List At} {r g b M t x w0 w1 w2 : Int} {H S : UInt64} {o1 o2 o3 t0 t1 t2 : At}
theorem w_near (B : BaseOK W) (FO : FlagsOK W) (h0 : Fine t0 w0) (h1 : Fine t1 w1) (h2 : Fine t2 w2) : ExS W 85 (namesAt 100) (ifS 18) (z7 K ns dr ws r g b H S M t x o1 o2 o3 [.int w0, .int w1, .int w2] [t0, t1, t2], none) (z7 K ns dr ws r g b H S M t x o1 o2 o3 [.int w0, .int w1, .int w2] [t0, t1, t2], none) .next := by
  have hphi : PhiOK W 85 (fun _ _ => none) := fun f ds d h => nomatch h
  have sd := evs_sound (k := 85) (by (first | grind | omega)) B FO hphi 9
  obtain ⟨s0, e0, a0, b0, c0⟩ := h0
  obtain ⟨s1, e1, a1, b1, c1⟩ := h1
  obtain ⟨s2, e2, a2, b2, c2⟩ := h2
  obtain ⟨m, hm, ho⟩ := op_max (W := W) (k := 85) (as := [e0, e1, e2]) (fun a ha => by
    simp only [List.mem_cons, List.not_mem_nil, or_false] at ha
    rcases ha with rfl | rfl | rfl
    · exact b0.num
    · exact b1.num
    · exact b2.num) (by simp)
  have hg : Good m := by
    simp only [List.mem_cons, List.not_mem_nil, or_false] at hm
    rcases hm with rfl | rfl | rfl
    · exact c0
    · exact c1
    · exact c2
  obtain ⟨d, hd1, hd2⟩ := hg
  refine ex_pass fun env F => ?_
  rw [w18_eq]
  have step : ∀ {j : Int} {s e : At}, f18 (fun _ _ => none) (z7 K ns dr ws r g b H S M t x o1 o2 o3 [.int w0, .int w1, .int w2] [t0, t1, t2]) j = some (.at s) → AbsTo s e → ∀ cl (env : Env) C, EvTo W 85 (compEnvC (coS w18L) cl C env) ((Str.ofString "i", .at (.int j)) :: innerOf (coS w18L).names (z7 K ns dr ws r g b H S M t x o1 o2 o3 [.int w0, .int w1, .int w2] [t0, t1, t2]))
      (.Call (.Name (Str.ofString "abs") (poE (caF w18E))) [pA w18E 0] [] (poE w18E)) (.at e) := fun {j s e} hs ha cl env C =>
    ev_callB B ((KindOK.inner w_18n _).1 (by first | kernel_rfl | decide +kernel)) (show GL.lookup (Str.ofString "abs") = some (.bi "abs") from by first | kernel_rfl | decide +kernel) (.cons (by kernel_rfl) (sd.e hs (.inner w_18n)) .nil) (op_abs ha)
  have q0 := (w_18f (fun _ _ => none) K ns dr ws r g b M t x 0 H S o1 o2 o3 [.int w0, .int w1, .int w2] [t0, t1, t2]).trans a0
  have q1 := (w_18f (fun _ _ => none) K ns dr ws r g b M t x 1 H S o1 o2 o3 [.int w0, .int w1, .int w2] [t0, t1, t2]).trans a1
  have q2 := (w_18f (fun _ _ => none) K ns dr ws r g b M t x 2 H S o1 o2 o3 [.int w0, .int w1, .int w2] [t0, t1, t2]).trans a2
  have hcomp : EvTo W 85 env (z7 K ns dr ws r g b H S M t x o1 o2 o3 [.int w0, .int w1, .int w2] [t0, t1, t2]) (.ListComp (.Call (.Name (Str.ofString "abs") (poE (caF w18E))) [pA w18E 0] [] (poE w18E)) [⟨.Name (Str.ofString "i") (poE (coT w18L)), coI w18L, [], 0⟩] (coS w18L) (coP w18L)) (.lst [e0, e1, e2]) := fun A s Q rm ok E R q =>
    ev_comp (sd.e (w_18i ..) (kindF F)) (it_range (by decide) (by decide) (by decide) (by decide)) (by kernel_rfl) (compOK_of (by rw [← F.names]; exact KindOK.self) (w_18l ..) R)
      (by rw [rng3]; exact .take rfl (fun C => step q0 b0 _ env C) (.take rfl (fun C => step q1 b1 _ env C) (.take rfl (fun C => step q2 b2 _ env C) .nil))) (by decide) A s Q rm ok E R q
  exact ts_cmp (ev_bin (ev_callB B (kgx F _ (by first | kernel_rfl | decide +kernel)) (show GL.lookup (Str.ofString "max") = some (.bi "max") from by first | kernel_rfl | decide +kernel) (.cons rfl hcomp .nil) ho) (sd.e (w_18p ..) (kindF F)) (bin_sound hd1)) (sd.e (w_18o ..) (kindF F)) (cmp_sound (by (first | grind | omega)) hd2) (by kernel_rfl)
end
end Mine
end
section
open PySem PySem.W PySem.Calls PyProof.Rows PySem.Spec PySem.SeqAt PySem.SeqRoads2 PySem.MeetsSeq
set_option Elab.async false
set_option maxRecDepth 100000
set_option linter.unusedVariables false
namespace Mine
noncomputable def nearB (x : UInt64) (w : Int) : Bool := match Float64.cmpInt (Float64.mul (Float64.abs (Float64.sub x (Float64.ofInt w))) (Float64.ofInt 1048576)) 1 with
  | some .lt => true
  | _ => false
noncomputable def Cs.md (K : Cs) : Int := K.a + K.b + K.d - K.hi - K.lo
noncomputable def Cs.fm (K : Cs) (H : UInt64) (I : Int) : UInt64 := if K.par = 0 then fracF H I else Float64.sub 0x3ff0000000000000 (fracF H I)
noncomputable def shr (hi lo g : Int) : UInt64 := divF (hi - lo) (g + hi)
noncomputable def chkP (hi lo : Int) (g : Nat) : Bool := !(Float64.cmp (shr hi lo g) 0 == some Ordering.eq) && nearB (vF (g + hi) (shr hi lo g)) (g + lo)
noncomputable def chkM (hi lo md : Int) (f : UInt64) (g : Nat) : Bool := nearB (vF (g + hi) (Float64.mul (shr hi lo g) f)) (g + md)
noncomputable def chkC (K : Cs) (j : List Int) (fl : List UInt64) (c1 c2 c3 : Nat) : Bool := match truncD (six (hue3 K.h c1 c2 c3)) with
  | some (.at (.int I)) => small I && I.fmod 6 == j.getD ((c1 + c2 + c3) % 3) 9 && fl.contains (K.fm (hue3 K.h c1 c2 c3) I)
  | _ => false
noncomputable def chkA (K : Cs) (j : List Int) (fl : List UInt64) : Bool := (List.range 3).all fun c1 => (List.range 3).all fun c2 => (List.range 3).all fun c3 => chkC K j fl c1 c2 c3

noncomputable def fl_7 : List UInt64 := [0x3fd5555555555520, 0x3fd5555555555540, 0x3fd5555555555560, 0x3fd5555555555580, 0x3fd5555555555590]
theorem cp_7 : (List.range 100).all (chkP 3 0) = true := by decide +kernel
theorem cm_7_0 : (List.range 100).all (chkM 3 0 2 0x3fd5555555555520) = true := by decide +kernel
theorem cm_7_1 : (List.range 100).all (chkM 3 0 2 0x3fd5555555555540) = true := by decide +kernel
theorem cm_7_2 : (List.range 100).all (chkM 3 0 2 0x3fd5555555555560) = true := by decide +kernel
theorem cm_7_3 : (List.range 100).all (chkM 3 0 2 0x3fd5555555555580) = true := by decide +kernel
theorem cm_7_4 : (List.range 100).all (chkM 3 0 2 0x3fd5555555555590) = true := by decide +kernel
theorem cm_7 : ∀ f ∈ fl_7, ∀ g : Nat, g < 100 → chkM 3 0 2 f g = true := fun f hf g hg => by
  simp only [fl_7, List.mem_cons, List.not_mem_nil, or_false] at hf
  rcases hf with rfl | rfl | rfl | rfl | rfl
  · exact List.all_eq_true.mp cm_7_0 g (List.mem_range.mpr hg)
  · exact List.all_eq_true.mp cm_7_1 g (List.mem_range.mpr hg)
  · exact List.all_eq_true.mp cm_7_2 g (List.mem_range.mpr hg)
  · exact List.all_eq_true.mp cm_7_3 g (List.mem_range.mpr hg)
  · exact List.all_eq_true.mp cm_7_4 g (List.mem_range.mpr hg)
noncomputable def fl_13 : List UInt64 := [0x3fe7ffffffffffe0, 0x3fe7fffffffffff0, 0x3fe8000000000000, 0x3fe8000000000010, 0x3fe8000000000020]
theorem cp_13 : (List.range 100).all (chkP 6 2) = true := by decide +kernel
theorem cm_13_0 : (List.range 100).all (chkM 6 2 3 0x3fe7ffffffffffe0) = true := by decide +kernel
theorem cm_13_1 : (List.range 100).all (chkM 6 2 3 0x3fe7fffffffffff0) = true := by decide +kernel
theorem cm_13_2 : (List.range 100).all (chkM 6 2 3 0x3fe8000000000000) = true := by decide +kernel
theorem cm_13_3 : (List.range 100).all (chkM 6 2 3 0x3fe8000000000010) = true := by decide +kernel
theorem cm_13_4 : (List.range 100).all (chkM 6 2 3 0x3fe8000000000020) = true := by decide +kernel
theorem cm_13 : ∀ f ∈ fl_13, ∀ g : Nat, g < 100 → chkM 6 2 3 f g = true := fun f hf g hg => by
  simp only [fl_13, List.mem_cons, List.not_mem_nil, or_false] at hf
  rcases hf with rfl | rfl | rfl | rfl | rfl
  · exact List.all_eq_true.mp cm_13_0 g (List.mem_range.mpr hg)
  · exact List.all_eq_true.mp cm_13_1 g (List.mem_range.mpr hg)
  · exact List.all_eq_true.mp cm_13_2 g (List.mem_range.mpr hg)
  · exact List.all_eq_true.mp cm_13_3 g (List.mem_range.mpr hg)
  · exact List.all_eq_true.mp cm_13_4 g (List.mem_range.mpr hg)
noncomputable def fl_19 : List UInt64 := [0x3fd9999999999940, 0x3fd9999999999960, 0x3fd9999999999980, 0x3fd99999999999a0, 0x3fd99999999999c0]
theorem cp_19 : (List.range 100).all (chkP 8 3) = true := by decide +kernel
theorem cm_19_0 : (List.range 100).all (chkM 8 3 6 0x3fd9999999999940) = true := by decide +kernel
theorem cm_19_1 : (List.range 100).all (chkM 8 3 6 0x3fd9999999999960) = true := by decide +kernel
theorem cm_19_2 : (List.range 100).all (chkM 8 3 6 0x3fd9999999999980) = true := by decide +kernel
theorem cm_19_3 : (List.range 100).all (chkM 8 3 6 0x3fd99999999999a0) = true := by decide +kernel
theorem cm_19_4 : (List.range 100).all (chkM 8 3 6 0x3fd99999999999c0) = true := by decide +kernel
theorem cm_19 : ∀ f ∈ fl_19, ∀ g : Nat, g < 100 → chkM 8 3 6 f g = true := fun f hf g hg => by
  simp only [fl_19, List.mem_cons, List.not_mem_nil, or_false] at hf
  rcases hf with rfl | rfl | rfl | rfl | rfl
  · exact List.all_eq_true.mp cm_19_0 g (List.mem_range.mpr hg)
  · exact List.all_eq_true.mp cm_19_1 g (List.mem_range.mpr hg)
  · exact List.all_eq_true.mp cm_19_2 g (List.mem_range.mpr hg)
  · exact List.all_eq_true.mp cm_19_3 g (List.mem_range.mpr hg)
  · exact List.all_eq_true.mp cm_19_4 g (List.mem_range.mpr hg)
noncomputable def fl_31 : List UInt64 := [0x3fc5555555555500, 0x3fc5555555555540, 0x3fc5555555555580, 0x3fc55555555555c0, 0x3fc5555555555600]
theorem cp_31 : (List.range 100).all (chkP 12 6) = true := by decide +kernel
theorem cm_31_0 : (List.range 100).all (chkM 12 6 11 0x3fc5555555555500) = true := by decide +kernel
theorem cm_31_1 : (List.range 100).all (chkM 12 6 11 0x3fc5555555555540) = true := by decide +kernel
theorem cm_31_2 : (List.range 100).all (chkM 12 6 11 0x3fc5555555555580) = true := by decide +kernel
theorem cm_31_3 : (List.range 100).all (chkM 12 6 11 0x3fc55555555555c0) = true := by decide +kernel
theorem cm_31_4 : (List.range 100).all (chkM 12 6 11 0x3fc5555555555600) = true := by decide +kernel
theorem cm_31 : ∀ f ∈ fl_31, ∀ g : Nat, g < 100 → chkM 12 6 11 f g = true := fun f hf g hg => by
  simp only [fl_31, List.mem_cons, List.not_mem_nil, or_false] at hf
  rcases hf with rfl | rfl | rfl | rfl | rfl
  · exact List.all_eq_true.mp cm_31_0 g (List.mem_range.mpr hg)
  · exact List.all_eq_true.mp cm_31_1 g (List.mem_range.mpr hg)
  · exact List.all_eq_true.mp cm_31_2 g (List.mem_range.mpr hg)
  · exact List.all_eq_true.mp cm_31_3 g (List.mem_range.mpr hg)
  · exact List.all_eq_true.mp cm_31_4 g (List.mem_range.mpr hg)
theorem ca_K70 : chkA K70 [1, 5, 3] fl_7 = true := by decide +kernel
theorem ca_K71 : chkA K71 [4, 2, 0] fl_7 = true := by decide +kernel
theorem ca_K130 : chkA K130 [3, 1, 5] fl_13 = true := by decide +kernel
theorem ca_K131 : chkA K131 [2, 0, 4] fl_13 = true := by decide +kernel
theorem ca_K190 : chkA K190 [5, 3, 1] fl_19 = true := by decide +kernel
theorem ca_K191 : chkA K191 [0, 4, 2] fl_19 = true := by decide +kernel
theorem ca_K310 : chkA K310 [1, 5, 3] fl_31 = true := by decide +kernel
theorem ca_K311 : chkA K311 [4, 2, 0] fl_31 = true := by decide +kernel
end Mine
end
section
open PySem PySem.W PySem.Calls PyProof.Rows PySem.Spec PySem.SeqAt PySem.SeqRoads2 PySem.MeetsSeq
set_option Elab.async false
set_option maxRecDepth 100000
set_option linter.unusedVariables false
namespace Mine
/-- nought once, a class three times -/
noncomputable def tri (m : List Nat) : List Nat := 0 :: (m ++ (m ++ m))
noncomputable def cN (m : List Nat) (z : Nat) : Nat := (if z = 0 then 1 else 0) + 3 * m.count z
noncomputable def sN (p : Nat) (mi mj : List Nat) (y : Nat) : Nat := cN mj ((2 * p - y) % p) + 3 * (mi.map fun x => cN mj ((2 * p - y - x) % p)).sum
theorem count_tri (m : List Nat) (z : Nat) : (tri m).count z = cN m z := by
  unfold tri cN
  rw [List.count_cons, List.count_append, List.count_append]
  by_cases h : z = 0
  · subst h; simp; (first | grind | omega)
  · rw [if_neg h, if_neg (by simpa using fun q => h q.symm)]; (first | grind | omega)
theorem count_ints (z : Nat) : ∀ l : List Nat, (l.map Int.ofNat).count (z : Int) = l.count z
  | [] => rfl
  | x :: l => by
    rw [List.map_cons, List.count_cons, List.count_cons, count_ints z l]
    by_cases h : x = z
    · subst h; simp
    · have h2 : ¬ (Int.ofNat x = (z : Int)) := fun q => h (Int.ofNat.inj q)
      simp [h]
      exact h2
theorem perm_sum {f : Int → Int} {l l' : List Int} (h : l.Perm l') : (l.map f).sum = (l'.map f).sum := by
  induction h with
  | nil => rfl
  | cons x _ ih => simp [ih]
  | swap x y l => simp; (first | grind | omega)
  | trans _ _ ih1 ih2 => exact ih1.trans ih2
theorem fmod_nat {p a b : Nat} (hp : 0 < p) (ha : a ≤ p) (hb : b ≤ p) : (-(a : Int) - (b : Int)).fmod p = (((2 * p - a - b) % p : Nat) : Int) := by
  rw [Int.fmod_eq_emod_of_nonneg _ (by (first | grind | omega))]
  have e : -(a : Int) - (b : Int) = ((2 * p - a - b : Nat) : Int) + (p : Int) * (-2) := by (first | grind | omega)
  rw [e, Int.add_mul_emod_self_left]
  exact (Int.natCast_emod _ _).symm
theorem fmod_in (a b p : Int) : (a - b).fmod p = (a - b.fmod p).fmod p := by
  rcases Int.lt_trichotomy p 0 with h | h | h
  · have e := Int.mul_fdiv_add_fmod b p
    have : a - b = (a - b.fmod p) + p * (-(b.fdiv p)) := by rw [Int.mul_neg]; (first | grind | omega)
    rw [this, Int.add_mul_fmod_self_left]
  · subst h; simp
  · have e := Int.mul_fdiv_add_fmod b p
    have : a - b = (a - b.fmod p) + p * (-(b.fdiv p)) := by rw [Int.mul_neg]; (first | grind | omega)
    rw [this, Int.add_mul_fmod_self_left]
theorem sum_cast (f : Nat → Nat) : ∀ l : List Nat, ((l.map Int.ofNat).map fun x => ((f x.toNat : Nat) : Int)).sum = (((l.map f).sum : Nat) : Int)
  | [] => rfl
  | x :: l => by
    simp only [List.map_cons, List.sum_cons, sum_cast f l]
    rw [Int.natCast_add]; rfl
theorem sum_tri (f : Nat → Nat) (m : List Nat) : ((tri m).map f).sum = f 0 + 3 * (m.map f).sum := by
  unfold tri
  simp only [List.map_cons, List.map_append, List.sum_cons, List.sum_append]
  (first | grind | omega)
theorem pts_eq {u v y : Int} {cs : List Int} {p yn vn : Nat} {mi mj : List Nat} (hu : (cosetI u cs p).Perm ((tri mi).map Int.ofNat)) (hv : (cosetI v cs p).Perm ((tri mj).map Int.ofNat)) (hp : 0 < p) (ey : y = (yn : Int)) (ev : v = (vn : Int)) (hy : yn ≤ p) (hv1 : 1 ≤ vn) (hv2 : vn ≤ p) (hm : ∀ x ∈ mi, x ≤ p) :
    ptsI u v y cs p = ((sN p mi mj yn + cN mi (p - vn) : Nat) : Int) := by
  subst ey ev
  have hc : ∀ z : Nat, (cosetI (vn : Int) cs p).count (z : Int) = cN mj z := fun z => by rw [hv.count_eq, count_ints, count_tri]
  have hc' : ∀ z : Nat, (cosetI u cs p).count (z : Int) = cN mi z := fun z => by rw [hu.count_eq, count_ints, count_tri]
  unfold ptsI
  have h1 : cntI u (vn : Int) (yn : Int) cs p = (cosetI u cs p).map fun x => (((cosetI (vn : Int) cs p).count ((-(yn : Int) - x).fmod p) : Nat) : Int) := by
    unfold cntI
    rw [show cosetI u cs p = cs.map fun c => (u * c).fmod p from rfl, List.map_map]
    refine List.map_congr_left fun c _ => ?_
    show _ = (((cosetI (vn : Int) cs p).count ((-(yn : Int) - (u * c).fmod p).fmod p) : Nat) : Int)
    rw [← fmod_in]
  rw [h1, perm_sum hu]
  obtain ⟨f, hf⟩ : ∃ f : Nat → Nat, ∀ x, f x = cN mj ((2 * p - yn - x) % p) := ⟨_, fun _ => rfl⟩
  have h2 : ((tri mi).map Int.ofNat).map (fun x => (((cosetI (vn : Int) cs p).count ((-(yn : Int) - x).fmod p) : Nat) : Int)) = ((tri mi).map Int.ofNat).map fun x => ((f x.toNat : Nat) : Int) := by
    refine List.map_congr_left fun x hx => ?_
    obtain ⟨n, hn, rfl⟩ := List.mem_map.mp hx
    have hn' : n ≤ p := by
      unfold tri at hn
      simp only [List.mem_cons, List.mem_append] at hn
      rcases hn with rfl | h | h | h
      · (first | grind | omega)
      · exact hm n h
      · exact hm n h
      · exact hm n h
    show (((cosetI (vn : Int) cs p).count ((-(yn : Int) - (n : Int)).fmod p) : Nat) : Int) = ((f n : Nat) : Int)
    rw [fmod_nat hp hy hn', hc, hf]
  rw [h2, sum_cast, sum_tri]
  have h3 : (-(vn : Int)).fmod p = ((p - vn : Nat) : Int) := by
    have := fmod_nat (p := p) (a := vn) (b := 0) hp hv2 (by (first | grind | omega))
    rw [show -(vn : Int) - ((0 : Nat) : Int) = -(vn : Int) by simp] at this
    rw [this, show 2 * p - vn - 0 = (p - vn) + p by (first | grind | omega), Nat.add_mod_right, Nat.mod_eq_of_lt (by (first | grind | omega))]
  rw [h3, hc']
  have h4 : mi.map f = mi.map fun x => cN mj ((2 * p - yn - x) % p) := List.map_congr_left fun x _ => hf x
  unfold sN
  rw [hf, h4, Nat.sub_zero]
  simp only [Int.natCast_add]

noncomputable def Cs.ms (K : Cs) (i : Nat) : List Nat := if i = 0 then K.m0 else if i = 1 then K.m1 else K.m2
/-- what is counted, less the prime and one -/
noncomputable def Cs.pt (K : Cs) (τ : Nat) : Int := if τ = 0 then 2 * K.a - K.b - K.d else if τ = 1 then 2 * K.b - K.d - K.a else 2 * K.d - K.a - K.b
noncomputable def chkPerm (K : Cs) (p : Nat) : Bool := (List.range p).all fun v => v == 0 || (cosetI v K.cs p).isPerm ((tri (K.ms (K.clx v))).map Int.ofNat)
noncomputable def chkS (K : Cs) (p : Nat) : Bool := (List.range 3).all fun i => (List.range 3).all fun j => (List.range p).all fun y => y == 0 || (((sN p (K.ms i) (K.ms j) y + if i = j then 3 else 0 : Nat) : Int) == K.pt ((i + j + K.clx y) % 3) + p + 1)
noncomputable def chkT (K : Cs) (p : Nat) : Bool := (List.range 3).all fun i => (List.range p).all fun v => v == 0 || (cN (K.ms i) (p - v) == if i = K.clx v then 3 else 0)
noncomputable def chkL (K : Cs) (p : Nat) : Bool := ((List.range p).all fun v => decide (K.clx v < 3)) && (List.range 3).all fun i => (K.ms i).all fun x => decide (x ≤ p)
theorem back_eq (a p : Int) : a = a + p + 1 - p - 1 := by (first | grind | omega)
theorem pts_all {K : Cs} {p : Nat} (hK : K.p = p) (hp : 0 < p) (h1 : chkPerm K p = true) (h2 : chkS K p = true) (h3 : chkT K p = true) (h4 : chkL K p = true) {u v y : Int} (hu : 1 ≤ u ∧ u < K.p) (hv : 1 ≤ v ∧ v < K.p) (hy : 1 ≤ y ∧ y < K.p) :
    K.pt ((K.clx u + K.clx v + K.clx y) % 3) = ptsI u v y K.cs K.p - K.p - 1 := by
  rw [hK] at hu hv hy ⊢
  obtain ⟨un, rfl⟩ := Int.eq_ofNat_of_zero_le (Int.le_trans (by decide) hu.1)
  obtain ⟨vn, rfl⟩ := Int.eq_ofNat_of_zero_le (Int.le_trans (by decide) hv.1)
  obtain ⟨yn, rfl⟩ := Int.eq_ofNat_of_zero_le (Int.le_trans (by decide) hy.1)
  have hu1 : 1 ≤ un := Int.ofNat_le.mp hu.1
  have hu2 : un < p := Int.ofNat_lt.mp hu.2
  have hv1 : 1 ≤ vn := Int.ofNat_le.mp hv.1
  have hv2 : vn < p := Int.ofNat_lt.mp hv.2
  have hy1 : 1 ≤ yn := Int.ofNat_le.mp hy.1
  have hy2 : yn < p := Int.ofNat_lt.mp hy.2
  unfold chkPerm at h1
  unfold chkS at h2
  unfold chkT at h3
  unfold chkL at h4
  simp only [Bool.and_eq_true, List.all_eq_true, List.mem_range, Bool.or_eq_true, beq_iff_eq, decide_eq_true_eq] at h1 h2 h3 h4
  obtain ⟨h4, h5⟩ := h4
  have eu := (h1 un hu2).resolve_left (Nat.ne_of_gt hu1)
  have ev := (h1 vn hv2).resolve_left (Nat.ne_of_gt hv1)
  have cu := h4 un hu2
  have cv := h4 vn hv2
  have es := (h2 _ cu _ cv yn hy2).resolve_left (Nat.ne_of_gt hy1)
  have et := (h3 _ cu vn hv2).resolve_left (Nat.ne_of_gt hv1)
  rw [pts_eq (List.isPerm_iff.mp eu) (List.isPerm_iff.mp ev) hp rfl rfl (Nat.le_of_lt hy2) hv1 (Nat.le_of_lt hv2) (h5 _ cu), et, es]
  exact back_eq _ _

theorem pt_K70 {u v y : Int} (hu : 1 ≤ u ∧ u < K70.p) (hv : 1 ≤ v ∧ v < K70.p) (hy : 1 ≤ y ∧ y < K70.p) : K70.pt ((K70.clx u + K70.clx v + K70.clx y) % 3) = ptsI u v y K70.cs K70.p - K70.p - 1 :=
  pts_all (p := 7) (by decide) (by decide) (by decide +kernel) (by decide +kernel) (by decide +kernel) (by decide +kernel) hu hv hy
theorem pt_K71 {u v y : Int} (hu : 1 ≤ u ∧ u < K71.p) (hv : 1 ≤ v ∧ v < K71.p) (hy : 1 ≤ y ∧ y < K71.p) : K71.pt ((K71.clx u + K71.clx v + K71.clx y) % 3) = ptsI u v y K71.cs K71.p - K71.p - 1 :=
  pts_all (p := 7) (by decide) (by decide) (by decide +kernel) (by decide +kernel) (by decide +kernel) (by decide +kernel) hu hv hy
theorem pt_K130 {u v y : Int} (hu : 1 ≤ u ∧ u < K130.p) (hv : 1 ≤ v ∧ v < K130.p) (hy : 1 ≤ y ∧ y < K130.p) : K130.pt ((K130.clx u + K130.clx v + K130.clx y) % 3) = ptsI u v y K130.cs K130.p - K130.p - 1 :=
  pts_all (p := 13) (by decide) (by decide) (by decide +kernel) (by decide +kernel) (by decide +kernel) (by decide +kernel) hu hv hy
theorem pt_K131 {u v y : Int} (hu : 1 ≤ u ∧ u < K131.p) (hv : 1 ≤ v ∧ v < K131.p) (hy : 1 ≤ y ∧ y < K131.p) : K131.pt ((K131.clx u + K131.clx v + K131.clx y) % 3) = ptsI u v y K131.cs K131.p - K131.p - 1 :=
  pts_all (p := 13) (by decide) (by decide) (by decide +kernel) (by decide +kernel) (by decide +kernel) (by decide +kernel) hu hv hy
theorem pt_K190 {u v y : Int} (hu : 1 ≤ u ∧ u < K190.p) (hv : 1 ≤ v ∧ v < K190.p) (hy : 1 ≤ y ∧ y < K190.p) : K190.pt ((K190.clx u + K190.clx v + K190.clx y) % 3) = ptsI u v y K190.cs K190.p - K190.p - 1 :=
  pts_all (p := 19) (by decide) (by decide) (by decide +kernel) (by decide +kernel) (by decide +kernel) (by decide +kernel) hu hv hy
theorem pt_K191 {u v y : Int} (hu : 1 ≤ u ∧ u < K191.p) (hv : 1 ≤ v ∧ v < K191.p) (hy : 1 ≤ y ∧ y < K191.p) : K191.pt ((K191.clx u + K191.clx v + K191.clx y) % 3) = ptsI u v y K191.cs K191.p - K191.p - 1 :=
  pts_all (p := 19) (by decide) (by decide) (by decide +kernel) (by decide +kernel) (by decide +kernel) (by decide +kernel) hu hv hy
theorem pt_K310 {u v y : Int} (hu : 1 ≤ u ∧ u < K310.p) (hv : 1 ≤ v ∧ v < K310.p) (hy : 1 ≤ y ∧ y < K310.p) : K310.pt ((K310.clx u + K310.clx v + K310.clx y) % 3) = ptsI u v y K310.cs K310.p - K310.p - 1 :=
  pts_all (p := 31) (by decide) (by decide) (by decide +kernel) (by decide +kernel) (by decide +kernel) (by decide +kernel) hu hv hy
theorem pt_K311 {u v y : Int} (hu : 1 ≤ u ∧ u < K311.p) (hv : 1 ≤ v ∧ v < K311.p) (hy : 1 ≤ y ∧ y < K311.p) : K311.pt ((K311.clx u + K311.clx v + K311.clx y) % 3) = ptsI u v y K311.cs K311.p - K311.p - 1 :=
  pts_all (p := 31) (by decide) (by decide) (by decide +kernel) (by decide +kernel) (by decide +kernel) (by decide +kernel) hu hv hy
end Mine
end
section
open PySem PySem.W PySem.Calls PyProof.Rows PySem.Spec PySem.SeqAt PySem.SeqRoads2 PySem.MeetsSeq
set_option Elab.async false
set_option maxRecDepth 100000
set_option linter.unusedVariables false
namespace Mine
theorem good_zero : Good (.int 0) := ⟨.int 0, by kernel_rfl, by kernel_rfl⟩
theorem fine_int (V : Int) : Fine (.int V) V := by
  refine ⟨.int 0, .int 0, ?_, ?_, good_zero⟩
  · show some (D.int (V - V)) = _
    rw [Int.sub_self]
  · exact AbsTo.i 0
theorem fine_flt {x : UInt64} {w : Int} (hw : small w = true) (h : nearB x w = true) : Fine (.flt x) w := by
  have hm : binFI .Mult (Float64.abs (Float64.sub x (Float64.ofInt w))) 1048576 = some (.flt (Float64.mul (Float64.abs (Float64.sub x (Float64.ofInt w))) (Float64.ofInt 1048576))) := mulFI (by decide +kernel)
  refine ⟨.flt (Float64.sub x (Float64.ofInt w)), _, subFI hw, AbsTo.f _, ⟨.flt (Float64.mul (Float64.abs (Float64.sub x (Float64.ofInt w))) (Float64.ofInt 1048576)), hm, ?_⟩⟩
  unfold nearB at h
  show some (Float64.cmpInt (Float64.mul (Float64.abs (Float64.sub x (Float64.ofInt w))) (Float64.ofInt 1048576)) 1 == some Ordering.gt || Float64.cmpInt (Float64.mul (Float64.abs (Float64.sub x (Float64.ofInt w))) (Float64.ofInt 1048576)) 1 == some Ordering.eq) = some false
  split at h
  · rename_i hc; rw [hc]; rfl
  · cases h
noncomputable def rotI (τ : Nat) (r g b : Int) : List Int := match τ with
  | 0 => [r, g, b]
  | 1 => [g, b, r]
  | _ => [b, r, g]
noncomputable def lay (j : Nat) (hi lo md : Int) : List Int := match j with
  | 0 => [hi, md, lo]
  | 1 => [md, hi, lo]
  | 2 => [lo, hi, md]
  | 3 => [lo, md, hi]
  | 4 => [md, lo, hi]
  | _ => [hi, lo, md]
theorem rot_shift (τ : Nat) (g a b d : Int) : rot τ (g + a) (g + b) (g + d) = (rotI τ a b d).map fun z => At.int (g + z) := by
  match τ with
  | 0 => rfl
  | 1 => rfl
  | n + 2 => rfl
noncomputable def AllFine (ts : List At) (ws : List Int) : Prop := ∃ t0 t1 t2 w0 w1 w2, ts = [t0, t1, t2] ∧ ws = [w0, w1, w2] ∧ Fine t0 w0 ∧ Fine t1 w1 ∧ Fine t2 w2
theorem lay_fine {j : Nat} {hi lo md g : Int} {p q t : UInt64} (hj : j < 6) (hp : Fine (.flt p) (g + lo)) (hq : j % 2 = 1 → Fine (.flt q) (g + md)) (ht : j % 2 = 0 → Fine (.flt t) (g + md)) : AllFine (outF j (g + hi) p q t) ((lay j hi lo md).map fun z => g + z) := by
  rcases lt6 hj with rfl | rfl | rfl | rfl | rfl | rfl
  · exact ⟨_, _, _, _, _, _, rfl, rfl, fine_int _, ht rfl, hp⟩
  · exact ⟨_, _, _, _, _, _, rfl, rfl, hq rfl, fine_int _, hp⟩
  · exact ⟨_, _, _, _, _, _, rfl, rfl, hp, fine_int _, ht rfl⟩
  · exact ⟨_, _, _, _, _, _, rfl, rfl, hp, hq rfl, fine_int _⟩
  · exact ⟨_, _, _, _, _, _, rfl, rfl, ht rfl, hp, fine_int _⟩
  · exact ⟨_, _, _, _, _, _, rfl, rfl, fine_int _, hp, hq rfl⟩
/-- what the floats of a case do -/
noncomputable def NearK (K : Cs) : Prop := ∀ (gn : Nat), gn < 100 → ∀ c1 c2 c3 : Nat, c1 < 3 → c2 < 3 → c3 < 3 → (Float64.cmp (K.S gn) 0 == some Ordering.eq) = false ∧ ∃ (I : Int) (j : Nat), truncD (six (hue3 K.h c1 c2 c3)) = some (.int I) ∧ small I = true ∧ I.fmod 6 = j ∧ j < 6 ∧
  AllFine (outF j (gn + K.hi) (vF (gn + K.hi) (K.S gn)) (vF (gn + K.hi) (Float64.mul (K.S gn) (fracF (hue3 K.h c1 c2 c3) I))) (vF (gn + K.hi) (Float64.mul (K.S gn) (Float64.sub 0x3ff0000000000000 (fracF (hue3 K.h c1 c2 c3) I))))) ((rotI ((c1 + c2 + c3) % 3) K.a K.b K.d).map fun z => (gn : Int) + z)
noncomputable def layOk (K : Cs) (js : List Int) (hi lo md : Int) : Bool := (List.range 3).all fun τ => decide (0 ≤ js.getD τ 9) && decide (js.getD τ 9 < 6) && (((js.getD τ 9).toNat % 2 == 1) == (K.par == 0)) && decide (rotI τ K.a K.b K.d = lay (js.getD τ 9).toNat hi lo md)
theorem near_of {K : Cs} {js : List Int} {fl : List UInt64} {hi lo md : Int} (hA : chkA K js fl = true) (hP : (List.range 100).all (chkP hi lo) = true) (hM : ∀ f ∈ fl, ∀ g : Nat, g < 100 → chkM hi lo md f g = true) (e1 : K.hi = hi) (e2 : K.lo = lo) (e3 : K.md = md) (hL : layOk K js hi lo md = true) (hb : 0 ≤ lo ∧ lo ≤ 1000 ∧ 0 ≤ md ∧ md ≤ 1000) : NearK K := by
  intro g hg c1 c2 c3 h1 h2 h3
  have hS : K.S g = shr hi lo g := by unfold Cs.S shr; rw [e1, e2]
  have hp := List.all_eq_true.mp hP g (List.mem_range.mpr hg)
  unfold chkP at hp
  simp only [Bool.and_eq_true, Bool.not_eq_true'] at hp
  obtain ⟨hz, hp⟩ := hp
  unfold chkA at hA
  have hc := List.all_eq_true.mp (List.all_eq_true.mp (List.all_eq_true.mp hA c1 (List.mem_range.mpr h1)) c2 (List.mem_range.mpr h2)) c3 (List.mem_range.mpr h3)
  unfold chkC at hc
  unfold layOk at hL
  have hl := List.all_eq_true.mp hL ((c1 + c2 + c3) % 3) (List.mem_range.mpr (by (first | grind | omega)))
  simp only [Bool.and_eq_true, decide_eq_true_eq, beq_iff_eq] at hl
  obtain ⟨⟨⟨l1, l2⟩, l3⟩, l4⟩ := hl
  split at hc
  · rename_i I hI
    simp only [Bool.and_eq_true, beq_iff_eq, List.contains_iff_mem] at hc
    obtain ⟨⟨k1, k2⟩, k3⟩ := hc
    have hm := hM _ k3 g hg
    unfold chkM at hm
    rw [hS, e1]
    refine ⟨hz, I, (js.getD ((c1 + c2 + c3) % 3) 9).toNat, hI, k1, by rw [k2]; (first | grind | omega), by (first | grind | omega), ?_⟩
    rw [l4]
    have sl : small ((g : Int) + lo) = true := small_of' (by (first | grind | omega)) (by (first | grind | omega))
    have sm : small ((g : Int) + md) = true := small_of' (by (first | grind | omega)) (by (first | grind | omega))
    refine lay_fine (by (first | grind | omega)) (fine_flt sl hp) (fun hj => ?_) fun hj => ?_
    · have hpar : K.par = 0 := by
        rw [hj] at l3; simpa using l3
      unfold Cs.fm at hm
      rw [if_pos hpar] at hm
      exact fine_flt sm hm
    · have hpar : ¬ K.par = 0 := by
        rw [hj] at l3; simpa using l3
      unfold Cs.fm at hm
      rw [if_neg hpar] at hm
      exact fine_flt sm hm
  · cases hc

/-- what the law's end wants of a case -/
structure TailK (K : Cs) : Prop where
  hb : Bnd K
  hh : hueF K.a K.b K.d K.hi K.lo = K.h
  r12 : ∀ ns dr ws r g b S M, (evs phiW 12).t (namesAt 100) (z2 K ns dr ws r g b K.h S M) (ifT (w 12)) = some false
  hq : eqTx K.pls K.pls = true
  hcl : ∀ x, 1 ≤ x → x < K.p → K.clx x < 3
  r95 : ∀ u v y, compV (evs (fun _ _ => none) 9) (namesAt 95) (q0 u v y K.p) (asE (qS 0)) = some (K.cs.map .int)
  hcs : K.cs.length ≤ 100000
  hp : 1 ≤ K.p ∧ K.p ≤ 31
  pt : ∀ u v y, 1 ≤ u ∧ u < K.p → 1 ≤ v ∧ v < K.p → 1 ≤ y ∧ y < K.p → K.pt ((K.clx u + K.clx v + K.clx y) % 3) = ptsI u v y K.cs K.p - K.p - 1
  near : NearK K
  norm : K.a * K.a + K.b * K.b + K.d * K.d - K.a * K.b - K.b * K.d - K.d * K.a = K.p
  hrs : K.rs = K.m0.map Int.ofNat
  hm : ∀ m ∈ K.m0, 1 ≤ m
  hok : (K.m0.map wd).all PyData.strOk = true
theorem norm_shift (g a b d : Int) : (g + a) * (g + a) + (g + b) * (g + b) + (g + d) * (g + d) - (g + a) * (g + b) - (g + b) * (g + d) - (g + d) * (g + a) = a * a + b * b + d * d - a * b - b * d - d * a := by
  simp only [Int.add_mul, Int.mul_add]
  rw [Int.mul_comm a g, Int.mul_comm b g, Int.mul_comm d g]
  (first | grind | omega)
theorem lin3 (g a b d : Int) : 2 * (g + a) - (g + b) - (g + d) = 2 * a - b - d := by (first | grind | omega)
theorem three {α : Type} {a b c x y z : α} (h : [a, b, c] = [x, y, z]) : a = x ∧ b = y ∧ c = z := ⟨(List.cons.inj h).1, (List.cons.inj (List.cons.inj h).2).1, (List.cons.inj (List.cons.inj (List.cons.inj h).2).2).1⟩
theorem pt_of {K : Cs} {τ : Nat} (hτ : τ < 3) {g w0 w1 w2 : Int} (h : (rotI τ K.a K.b K.d).map (fun z => g + z) = [w0, w1, w2]) : 2 * w0 - w1 - w2 = K.pt τ := by
  rcases lt3 hτ with rfl | rfl | rfl
  · obtain ⟨rfl, rfl, rfl⟩ := three (show [g + K.a, g + K.b, g + K.d] = _ from h); exact lin3 ..
  · obtain ⟨rfl, rfl, rfl⟩ := three (show [g + K.b, g + K.d, g + K.a] = _ from h); exact lin3 ..
  · obtain ⟨rfl, rfl, rfl⟩ := three (show [g + K.d, g + K.a, g + K.b] = _ from h); exact lin3 ..
theorem small_add {g x : Int} (h0 : 0 ≤ g) (h1 : g < 100) (hx : 0 ≤ x) (hx2 : x ≤ 100) : small (g + x) = true := small_of' (by (first | grind | omega)) (by (first | grind | omega))
theorem small_p {u p : Int} (h : 1 ≤ u ∧ u < p) (hp : p ≤ 31) : small u = true := small_of' (by (first | grind | omega)) (by (first | grind | omega))
section
variable {W : Wd} {P : Params}
theorem runs_one (B : BaseOK W) {k : Nat} {names : Names} {E : Evs} (S : Sound W k E) {n : Nat} {c : Stmt} {st st1 : St} (h : runs E names (n + 1) [c] st = some (st1, .next)) : ExS W k names c st st1 .next := by
  have h' : exList (exFrz E names (runs E names n)) [c] st = some (st1, FlowD.next) := h
  obtain ⟨⟨st₁, g⟩, h1, h3⟩ := Option.bind_eq_some_iff.mp h'
  have hs := frz_sound B S (runs_sound B S n) h1
  cases g with
  | next => exact res_to (P := fun st fl => ExS W k names c _ st fl) (show (some (st₁, .next) : Res) = some (st1, .next) from h3) hs
  | brk => exact FlowD.noConfusion (Prod.mk.inj (Option.some.inj h3)).2
  | ret d => exact FlowD.noConfusion (Prod.mk.inj (Option.some.inj h3)).2
theorem w_case {K : Cs} (X : (hd.heap_39 P).In W.base) (B : BaseOK W) (FO : FlagsOK W) (N : NestOK W) (F : FactK K) (R : RunK K) (NK : NumK K) (T : TailK K) {ns : List Int} {dr : List At} {u v y : Int} (hl : ns.length ≤ 63) (hpar : (ns.length : Int).fmod 2 = K.par)
    (hu : 1 ≤ u ∧ u < K.p) (hv : 1 ≤ v ∧ v < K.p) (hy : 1 ≤ y ∧ y < K.p) : ∃ st', ExL W 85 (namesAt 100) [w 3, w 4, aS (Str.ofString "other") (w 5), w 6, w 7, aS (Str.ofString "mixture") (w 8), w 9, w 10,
  .Assign [.Tuple (tuE (asT (w 11))) (tuK (asT (w 11))) (tuP (asT (w 11)))] (pCall (Str.ofString "rgb_to_hsv") (asE (w 11)) [pA (asE (w 11)) 0, pA (asE (w 11)) 1, pA (asE (w 11)) 2]) (poS (w 11)),
  ifS 12, w 13, .For (.Name (Str.ofString "weight") (poE (foT (w 14)))) (foI (w 14)) [.Assign [.Tuple (tuE (asT (wB 0))) (tuK (asT (wB 0))) (tuP (asT (wB 0)))] (asE (wB 0)) (poS (wB 0)), wB 1] [] (foP (w 14)), aS (Str.ofString "wish") (w 15), ifS 16,
  .Assign [.Name (Str.ofString "turned") (poE (asT (w 17)))] (pCall (Str.ofString "hsv_to_rgb") (asE (w 17)) [pA (asE (w 17)) 0, pA (asE (w 17)) 1, pA (asE (w 17)) 2]) (poS (w 17)), ifS 18, ifS 19, .Return (some (reE (w 20))) (poS (w 20))]
    (v3 ns K.p dr [.int u, .int v, .int y], none) st' (.ret (.bool true)) := by
  have hphi : PhiOK W 85 (fun _ _ => none) := fun f ds d h => nomatch h
  have sd := evs_sound (k := 85) (by (first | grind | omega)) B FO hphi 9
  have pW : PhiOK W 85 phiW := (phiW_ok X B FO N).mono (by (first | grind | omega))
  have sW := evs_sound (k := 85) (by (first | grind | omega)) B FO pW 12
  obtain ⟨g, g0, g1, hmid⟩ := w_mid (dr := dr) (ws := [.int u, .int v, .int y]) X B FO N F R hl hpar
  obtain ⟨gn, rfl⟩ := Int.eq_ofNat_of_zero_le g0
  have cu := T.hcl u hu.1 hu.2
  have cv := T.hcl v hv.1 hv.2
  have cy := T.hcl y hy.1 hy.2
  obtain ⟨hz, I, j, hI, sI, hj, hj6, t0, t1, t2, w0, w1, w2, et, ew, f0, f1, f2⟩ := T.near gn (Int.ofNat_lt.mp g1) _ _ _ cu cv cy
  have ep := (pt_of (Nat.mod_lt _ (by decide)) ew).trans (T.pt u v y hu hv hy)
  have er : rot ((K.clx u + K.clx v + K.clx y) % 3) ((gn : Int) + K.a) (gn + K.b) (gn + K.d) = [.int w0, .int w1, .int w2] := by
    rw [rot_shift, show (fun z => At.int ((gn : Int) + z)) = (At.int ∘ fun z => (gn : Int) + z) from rfl, ← List.map_map, ew]; rfl
  have h0 : (0 : Int) ≤ gn := Int.natCast_nonneg _
  obtain ⟨m1, m2, m3⟩ := T.hb.m
  have hp0 : K.p ≠ 0 := Int.ne_of_gt (Int.lt_of_lt_of_le Int.zero_lt_one T.hp.1)
  have s1 := small_add h0 g1 (Int.le_trans m1 T.hb.a.1) (Int.le_trans T.hb.a.2 m3)
  have s2 := small_add h0 g1 (Int.le_trans m1 T.hb.b.1) (Int.le_trans T.hb.b.2 m3)
  have s3 := small_add h0 g1 (Int.le_trans m1 T.hb.d.1) (Int.le_trans T.hb.d.2 m3)
  have s4 := small_add h0 g1 (Int.le_trans m1 (Int.le_of_lt m2)) m3
  have tail : ∃ st', ExL W 85 (namesAt 100) [.Assign [.Tuple (tuE (asT (w 11))) (tuK (asT (w 11))) (tuP (asT (w 11)))] (pCall (Str.ofString "rgb_to_hsv") (asE (w 11)) [pA (asE (w 11)) 0, pA (asE (w 11)) 1, pA (asE (w 11)) 2]) (poS (w 11)),
      ifS 12, w 13, .For (.Name (Str.ofString "weight") (poE (foT (w 14)))) (foI (w 14)) [.Assign [.Tuple (tuE (asT (wB 0))) (tuK (asT (wB 0))) (tuP (asT (wB 0)))] (asE (wB 0)) (poS (wB 0)), wB 1] [] (foP (w 14)), aS (Str.ofString "wish") (w 15), ifS 16,
      .Assign [.Name (Str.ofString "turned") (poE (asT (w 17)))] (pCall (Str.ofString "hsv_to_rgb") (asE (w 17)) [pA (asE (w 17)) 0, pA (asE (w 17)) 1, pA (asE (w 17)) 2]) (poS (w 17)), ifS 18, ifS 19, .Return (some (reE (w 20))) (poS (w 20))]
      (v11 K ns dr [.int u, .int v, .int y] gn, none) st' (.ret (.bool true)) := by
    rw [v11_eq NK]
    refine ⟨(z7 K ns dr [.int u, .int v, .int y] (gn + K.a) (gn + K.b) (gn + K.d) (hue3 K.h (K.clx u) (K.clx v) (K.clx y)) (K.S gn) (gn + K.hi) (turn3 (K.clx u) (K.clx v) (K.clx y)) y (hA (K.clx y) 0) (hA (K.clx y) 1) (hA (K.clx y) 2) [.int w0, .int w1, .int w2] [t0, t1, t2], none), ?_⟩
    refine ex_cons (w_hsv X B FO h0 g1 T.hb T.hh) ?_
    refine ex_cons (ex_pass fun env Fe => sW.t (T.r12 ..) (kindF Fe)) ?_
    refine ex_cons (runs_one B sd (w_13 ..)) ?_
    refine ex_cons (w_turns X B FO N F T.hq T.hcl hu hv hy) ?_
    refine ex_cons (w_wish B FO (Nat.mod_lt _ (by decide)) (turn3_mod cu cv cy)) ?_
    rw [er]
    refine ex_cons (w_points X B FO (small_p hu T.hp.2) (small_p hv T.hp.2) hp0 T.hcs (T.r95 ..) ep) ?_
    refine ex_cons (w_turned X B FO hz hI sI s4 hj hj6) ?_
    rw [et]
    refine ex_cons (w_near B FO f0 f1 f2) ?_
    refine ex_cons (w_norm B FO s1 s2 s3 ((norm_shift ..).trans T.norm)) ?_
    exact ex_stop (fun e => nomatch e) (w_words X B FO N F T.hrs T.hm T.hok)
  obtain ⟨st', ht⟩ := tail
  exact ⟨st', hmid _ st' _ ht⟩
end
end Mine
end
section
open PySem PySem.W PySem.Calls PyProof.Rows PySem.Spec PySem.SeqAt PySem.SeqRoads2 PySem.MeetsSeq
set_option Elab.async false
set_option maxRecDepth 100000
set_option linter.unusedVariables false
namespace Mine
theorem cl_of {K : Cs} {p : Nat} (hp : K.p = p) (h : (List.range p).all (fun i => decide (K.clx (i : Int) < 3)) = true) {x : Int} (h1 : 1 ≤ x) (h2 : x < K.p) : K.clx x < 3 := by
  obtain ⟨i, rfl⟩ := Int.eq_ofNat_of_zero_le (Int.le_trans (by decide) h1)
  rw [hp] at h2
  exact of_decide_eq_true (List.all_eq_true.mp h i (List.mem_range.mpr (Int.ofNat_lt.mp h2)))

theorem run_K70 : RunK K70 := ⟨fun ns dr ws => r34_K70 ns dr ws, ⟨2, by kernel_rfl, fun ns dr ws => r5_K70 ns dr ws⟩, fun ns dr ws => r67_K70 ns dr ws, fun ns dr ws g => r9_K70 ns dr ws g⟩
theorem num_K70 : NumK K70 := ⟨by decide +kernel, by decide +kernel, by decide +kernel⟩
theorem r12_K70 (ns : List Int) (dr ws : List At) (r g b : Int) (S : UInt64) (M : Int) : (evs phiW 12).t (namesAt 100) (z2 K70 ns dr ws r g b K70.h S M) (ifT (w 12)) = some false := by kernel_rfl
theorem r95_K70 (u v y : Int) : compV (evs (fun _ _ => none) 9) (namesAt 95) (q0 u v y K70.p) (asE (qS 0)) = some (K70.cs.map .int) := by kernel_rfl
theorem cl_K70 (x : Int) (h1 : 1 ≤ x) (h2 : x < K70.p) : K70.clx x < 3 := cl_of (p := 7) (by decide +kernel) (by decide +kernel) h1 h2
theorem tail_K70 : TailK K70 where
  hb := ⟨by decide +kernel, by decide +kernel, by decide +kernel, by decide +kernel⟩
  hh := by decide +kernel
  r12 := r12_K70
  hq := by decide +kernel
  hcl := cl_K70
  r95 := r95_K70
  hcs := by decide +kernel
  hp := by decide +kernel
  pt := fun u v y hu hv hy => pt_K70 hu hv hy
  near := near_of (js := [1, 5, 3]) (fl := fl_7) (hi := 3) (lo := 0) (md := 2) ca_K70 cp_7 cm_7 (by decide +kernel) (by decide +kernel) (by decide +kernel) (by decide +kernel) (by decide)
  norm := by decide +kernel
  hrs := by decide +kernel
  hm := by decide +kernel
  hok := by decide +kernel
theorem run_K71 : RunK K71 := ⟨fun ns dr ws => r34_K71 ns dr ws, ⟨2, by kernel_rfl, fun ns dr ws => r5_K71 ns dr ws⟩, fun ns dr ws => r67_K71 ns dr ws, fun ns dr ws g => r9_K71 ns dr ws g⟩
theorem num_K71 : NumK K71 := ⟨by decide +kernel, by decide +kernel, by decide +kernel⟩
theorem r12_K71 (ns : List Int) (dr ws : List At) (r g b : Int) (S : UInt64) (M : Int) : (evs phiW 12).t (namesAt 100) (z2 K71 ns dr ws r g b K71.h S M) (ifT (w 12)) = some false := by kernel_rfl
theorem r95_K71 (u v y : Int) : compV (evs (fun _ _ => none) 9) (namesAt 95) (q0 u v y K71.p) (asE (qS 0)) = some (K71.cs.map .int) := by kernel_rfl
theorem cl_K71 (x : Int) (h1 : 1 ≤ x) (h2 : x < K71.p) : K71.clx x < 3 := cl_of (p := 7) (by decide +kernel) (by decide +kernel) h1 h2
theorem tail_K71 : TailK K71 where
  hb := ⟨by decide +kernel, by decide +kernel, by decide +kernel, by decide +kernel⟩
  hh := by decide +kernel
  r12 := r12_K71
  hq := by decide +kernel
  hcl := cl_K71
  r95 := r95_K71
  hcs := by decide +kernel
  hp := by decide +kernel
  pt := fun u v y hu hv hy => pt_K71 hu hv hy
  near := near_of (js := [4, 2, 0]) (fl := fl_7) (hi := 3) (lo := 0) (md := 2) ca_K71 cp_7 cm_7 (by decide +kernel) (by decide +kernel) (by decide +kernel) (by decide +kernel) (by decide)
  norm := by decide +kernel
  hrs := by decide +kernel
  hm := by decide +kernel
  hok := by decide +kernel
theorem run_K130 : RunK K130 := ⟨fun ns dr ws => r34_K130 ns dr ws, ⟨2, by kernel_rfl, fun ns dr ws => r5_K130 ns dr ws⟩, fun ns dr ws => r67_K130 ns dr ws, fun ns dr ws g => r9_K130 ns dr ws g⟩
theorem num_K130 : NumK K130 := ⟨by decide +kernel, by decide +kernel, by decide +kernel⟩
theorem r12_K130 (ns : List Int) (dr ws : List At) (r g b : Int) (S : UInt64) (M : Int) : (evs phiW 12).t (namesAt 100) (z2 K130 ns dr ws r g b K130.h S M) (ifT (w 12)) = some false := by kernel_rfl
theorem r95_K130 (u v y : Int) : compV (evs (fun _ _ => none) 9) (namesAt 95) (q0 u v y K130.p) (asE (qS 0)) = some (K130.cs.map .int) := by kernel_rfl
theorem cl_K130 (x : Int) (h1 : 1 ≤ x) (h2 : x < K130.p) : K130.clx x < 3 := cl_of (p := 13) (by decide +kernel) (by decide +kernel) h1 h2
theorem tail_K130 : TailK K130 where
  hb := ⟨by decide +kernel, by decide +kernel, by decide +kernel, by decide +kernel⟩
  hh := by decide +kernel
  r12 := r12_K130
  hq := by decide +kernel
  hcl := cl_K130
  r95 := r95_K130
  hcs := by decide +kernel
  hp := by decide +kernel
  pt := fun u v y hu hv hy => pt_K130 hu hv hy
  near := near_of (js := [3, 1, 5]) (fl := fl_13) (hi := 6) (lo := 2) (md := 3) ca_K130 cp_13 cm_13 (by decide +kernel) (by decide +kernel) (by decide +kernel) (by decide +kernel) (by decide)
  norm := by decide +kernel
  hrs := by decide +kernel
  hm := by decide +kernel
  hok := by decide +kernel
theorem run_K131 : RunK K131 := ⟨fun ns dr ws => r34_K131 ns dr ws, ⟨2, by kernel_rfl, fun ns dr ws => r5_K131 ns dr ws⟩, fun ns dr ws => r67_K131 ns dr ws, fun ns dr ws g => r9_K131 ns dr ws g⟩
theorem num_K131 : NumK K131 := ⟨by decide +kernel, by decide +kernel, by decide +kernel⟩
theorem r12_K131 (ns : List Int) (dr ws : List At) (r g b : Int) (S : UInt64) (M : Int) : (evs phiW 12).t (namesAt 100) (z2 K131 ns dr ws r g b K131.h S M) (ifT (w 12)) = some false := by kernel_rfl
theorem r95_K131 (u v y : Int) : compV (evs (fun _ _ => none) 9) (namesAt 95) (q0 u v y K131.p) (asE (qS 0)) = some (K131.cs.map .int) := by kernel_rfl
theorem cl_K131 (x : Int) (h1 : 1 ≤ x) (h2 : x < K131.p) : K131.clx x < 3 := cl_of (p := 13) (by decide +kernel) (by decide +kernel) h1 h2
theorem tail_K131 : TailK K131 where
  hb := ⟨by decide +kernel, by decide +kernel, by decide +kernel, by decide +kernel⟩
  hh := by decide +kernel
  r12 := r12_K131
  hq := by decide +kernel
  hcl := cl_K131
  r95 := r95_K131
  hcs := by decide +kernel
  hp := by decide +kernel
  pt := fun u v y hu hv hy => pt_K131 hu hv hy
  near := near_of (js := [2, 0, 4]) (fl := fl_13) (hi := 6) (lo := 2) (md := 3) ca_K131 cp_13 cm_13 (by decide +kernel) (by decide +kernel) (by decide +kernel) (by decide +kernel) (by decide)
  norm := by decide +kernel
  hrs := by decide +kernel
  hm := by decide +kernel
  hok := by decide +kernel
theorem run_K190 : RunK K190 := ⟨fun ns dr ws => r34_K190 ns dr ws, ⟨2, by kernel_rfl, fun ns dr ws => r5_K190 ns dr ws⟩, fun ns dr ws => r67_K190 ns dr ws, fun ns dr ws g => r9_K190 ns dr ws g⟩
theorem num_K190 : NumK K190 := ⟨by decide +kernel, by decide +kernel, by decide +kernel⟩
theorem r12_K190 (ns : List Int) (dr ws : List At) (r g b : Int) (S : UInt64) (M : Int) : (evs phiW 12).t (namesAt 100) (z2 K190 ns dr ws r g b K190.h S M) (ifT (w 12)) = some false := by kernel_rfl
theorem r95_K190 (u v y : Int) : compV (evs (fun _ _ => none) 9) (namesAt 95) (q0 u v y K190.p) (asE (qS 0)) = some (K190.cs.map .int) := by kernel_rfl
theorem cl_K190 (x : Int) (h1 : 1 ≤ x) (h2 : x < K190.p) : K190.clx x < 3 := cl_of (p := 19) (by decide +kernel) (by decide +kernel) h1 h2
theorem tail_K190 : TailK K190 where
  hb := ⟨by decide +kernel, by decide +kernel, by decide +kernel, by decide +kernel⟩
  hh := by decide +kernel
  r12 := r12_K190
  hq := by decide +kernel
  hcl := cl_K190
  r95 := r95_K190
  hcs := by decide +kernel
  hp := by decide +kernel
  pt := fun u v y hu hv hy => pt_K190 hu hv hy
  near := near_of (js := [5, 3, 1]) (fl := fl_19) (hi := 8) (lo := 3) (md := 6) ca_K190 cp_19 cm_19 (by decide +kernel) (by decide +kernel) (by decide +kernel) (by decide +kernel) (by decide)
  norm := by decide +kernel
  hrs := by decide +kernel
  hm := by decide +kernel
  hok := by decide +kernel
theorem run_K191 : RunK K191 := ⟨fun ns dr ws => r34_K191 ns dr ws, ⟨2, by kernel_rfl, fun ns dr ws => r5_K191 ns dr ws⟩, fun ns dr ws => r67_K191 ns dr ws, fun ns dr ws g => r9_K191 ns dr ws g⟩
theorem num_K191 : NumK K191 := ⟨by decide +kernel, by decide +kernel, by decide +kernel⟩
theorem r12_K191 (ns : List Int) (dr ws : List At) (r g b : Int) (S : UInt64) (M : Int) : (evs phiW 12).t (namesAt 100) (z2 K191 ns dr ws r g b K191.h S M) (ifT (w 12)) = some false := by kernel_rfl
theorem r95_K191 (u v y : Int) : compV (evs (fun _ _ => none) 9) (namesAt 95) (q0 u v y K191.p) (asE (qS 0)) = some (K191.cs.map .int) := by kernel_rfl
theorem cl_K191 (x : Int) (h1 : 1 ≤ x) (h2 : x < K191.p) : K191.clx x < 3 := cl_of (p := 19) (by decide +kernel) (by decide +kernel) h1 h2
theorem tail_K191 : TailK K191 where
  hb := ⟨by decide +kernel, by decide +kernel, by decide +kernel, by decide +kernel⟩
  hh := by decide +kernel
  r12 := r12_K191
  hq := by decide +kernel
  hcl := cl_K191
  r95 := r95_K191
  hcs := by decide +kernel
  hp := by decide +kernel
  pt := fun u v y hu hv hy => pt_K191 hu hv hy
  near := near_of (js := [0, 4, 2]) (fl := fl_19) (hi := 8) (lo := 3) (md := 6) ca_K191 cp_19 cm_19 (by decide +kernel) (by decide +kernel) (by decide +kernel) (by decide +kernel) (by decide)
  norm := by decide +kernel
  hrs := by decide +kernel
  hm := by decide +kernel
  hok := by decide +kernel
theorem run_K310 : RunK K310 := ⟨fun ns dr ws => r34_K310 ns dr ws, ⟨3, by kernel_rfl, fun ns dr ws => r5_K310 ns dr ws⟩, fun ns dr ws => r67_K310 ns dr ws, fun ns dr ws g => r9_K310 ns dr ws g⟩
theorem num_K310 : NumK K310 := ⟨by decide +kernel, by decide +kernel, by decide +kernel⟩
theorem r12_K310 (ns : List Int) (dr ws : List At) (r g b : Int) (S : UInt64) (M : Int) : (evs phiW 12).t (namesAt 100) (z2 K310 ns dr ws r g b K310.h S M) (ifT (w 12)) = some false := by kernel_rfl
theorem r95_K310 (u v y : Int) : compV (evs (fun _ _ => none) 9) (namesAt 95) (q0 u v y K310.p) (asE (qS 0)) = some (K310.cs.map .int) := by kernel_rfl
theorem cl_K310 (x : Int) (h1 : 1 ≤ x) (h2 : x < K310.p) : K310.clx x < 3 := cl_of (p := 31) (by decide +kernel) (by decide +kernel) h1 h2
theorem tail_K310 : TailK K310 where
  hb := ⟨by decide +kernel, by decide +kernel, by decide +kernel, by decide +kernel⟩
  hh := by decide +kernel
  r12 := r12_K310
  hq := by decide +kernel
  hcl := cl_K310
  r95 := r95_K310
  hcs := by decide +kernel
  hp := by decide +kernel
  pt := fun u v y hu hv hy => pt_K310 hu hv hy
  near := near_of (js := [1, 5, 3]) (fl := fl_31) (hi := 12) (lo := 6) (md := 11) ca_K310 cp_31 cm_31 (by decide +kernel) (by decide +kernel) (by decide +kernel) (by decide +kernel) (by decide)
  norm := by decide +kernel
  hrs := by decide +kernel
  hm := by decide +kernel
  hok := by decide +kernel
theorem run_K311 : RunK K311 := ⟨fun ns dr ws => r34_K311 ns dr ws, ⟨3, by kernel_rfl, fun ns dr ws => r5_K311 ns dr ws⟩, fun ns dr ws => r67_K311 ns dr ws, fun ns dr ws g => r9_K311 ns dr ws g⟩
theorem num_K311 : NumK K311 := ⟨by decide +kernel, by decide +kernel, by decide +kernel⟩
theorem r12_K311 (ns : List Int) (dr ws : List At) (r g b : Int) (S : UInt64) (M : Int) : (evs phiW 12).t (namesAt 100) (z2 K311 ns dr ws r g b K311.h S M) (ifT (w 12)) = some false := by kernel_rfl
theorem r95_K311 (u v y : Int) : compV (evs (fun _ _ => none) 9) (namesAt 95) (q0 u v y K311.p) (asE (qS 0)) = some (K311.cs.map .int) := by kernel_rfl
theorem cl_K311 (x : Int) (h1 : 1 ≤ x) (h2 : x < K311.p) : K311.clx x < 3 := cl_of (p := 31) (by decide +kernel) (by decide +kernel) h1 h2
theorem tail_K311 : TailK K311 where
  hb := ⟨by decide +kernel, by decide +kernel, by decide +kernel, by decide +kernel⟩
  hh := by decide +kernel
  r12 := r12_K311
  hq := by decide +kernel
  hcl := cl_K311
  r95 := r95_K311
  hcs := by decide +kernel
  hp := by decide +kernel
  pt := fun u v y hu hv hy => pt_K311 hu hv hy
  near := near_of (js := [4, 2, 0]) (fl := fl_31) (hi := 12) (lo := 6) (md := 11) ca_K311 cp_31 cm_31 (by decide +kernel) (by decide +kernel) (by decide +kernel) (by decide +kernel) (by decide)
  norm := by decide +kernel
  hrs := by decide +kernel
  hm := by decide +kernel
  hok := by decide +kernel
end Mine
end
section
open PySem PySem.W PySem.Calls PyProof.Rows PySem.Spec PySem.SeqAt PySem.SeqRoads2 PySem.MeetsSeq
set_option Elab.async false
set_option maxRecDepth 100000
set_option linter.unusedVariables false
namespace Mine
section
variable {W : Wd} {P : Params}
theorem law_of {K : Cs} (X : (hd.heap_39 P).In W.base) (B : BaseOK W) (FO : FlagsOK W) (N : NestOK W) (F : FactK K) (R : RunK K) (NK : NumK K) (T : TailK K) {ns : List Int} (hl : ns.length ≤ 63) (hpar : (ns.length : Int).fmod 2 = K.par) {x0 x1 x2 : Int} (hK : 2 ≤ K.p)
    (h : ∀ c st' fl, ExL W 85 (namesAt 100) c (v3 ns K.p [.int x0, .int x1, .int x2] [.int (wOf K.p x0), .int (wOf K.p x1), .int (wOf K.p x2)], none) st' fl → ExL W 85 (namesAt 100) (.Assign [.Name (Str.ofString "prime") (poE (asT (w 0)))] (.Subscript (suO (asE (w 0))) (suI (asE (w 0))) (poE (asE (w 0)))) (poS (w 0)) ::
  .Assign [.Name (Str.ofString "drawn") (poE (asT (w 1)))] (.ListComp (coE w1) [⟨.Tuple [.Name (Str.ofString "k") (poE ((tuE (coT w1)).getD 0 xE)), .Name (Str.ofString "start") (poE ((tuE (coT w1)).getD 1 xE))] (tuK (coT w1)) (tuP (coT w1)), .Call (.Name (Str.ofString "enumerate") (poE (caF (coI w1)))) [pA (coI w1) 0] [] (poE (coI w1)), [], 0⟩] (coS w1) (coP w1)) (poS (w 1)) ::
  aS (Str.ofString "weights") (w 2) :: c) (v0 ns, none) st' fl) : ∃ st', ExL W 85 (namesAt 100) (bodyAt 100) (v0 ns, none) st' (.ret (.bool true)) := by
  have hw : ∀ x, 1 ≤ wOf K.p x ∧ wOf K.p x < K.p := fun x => by
    unfold wOf
    have h1 := Int.fmod_nonneg_of_pos x (show 0 < K.p - 1 by omega)
    have h2 := Int.fmod_lt_of_pos x (show 0 < K.p - 1 by omega)
    omega
  obtain ⟨st', hc⟩ := w_case X B FO N F R NK T (dr := [.int x0, .int x1, .int x2]) hl hpar (hw x0) (hw x1) (hw x2)
  refine ⟨st', ?_⟩
  rw [w_eq]
  exact h _ st' _ hc
theorem law_call (X : (hd.heap_39 P).In W.base) (B : BaseOK W) (FO : FlagsOK W) (N : NestOK W) {ns : List Int} (hl : ns.length ≤ 63) : CallOK W 86 100 [.lst (ns.map .int)] (.bool true) := by
  have pD : PhiOK W 85 phiD := (phiD_ok X B FO N).mono (by omega)
  obtain ⟨p, x0, x1, x2, hp, h⟩ := w_head (k := 85) (by omega) X B FO pD hl
  have hpar : (ns.length : Int).fmod 2 = ((0 : Nat) : Int) ∨ (ns.length : Int).fmod 2 = ((1 : Nat) : Int) := by
    rw [Int.fmod_eq_emod_of_nonneg _ (by omega)]; omega
  have key : ∃ st', ExL W 85 (namesAt 100) (bodyAt 100) (v0 ns, none) st' (.ret (.bool true)) := by
    rcases hpar with e | e <;> rcases hp with rfl | rfl | rfl | rfl
    · exact law_of (K := K70) X B FO N fact_K70 run_K70 num_K70 tail_K70 hl e (by decide) h
    · exact law_of (K := K130) X B FO N fact_K130 run_K130 num_K130 tail_K130 hl e (by decide) h
    · exact law_of (K := K190) X B FO N fact_K190 run_K190 num_K190 tail_K190 hl e (by decide) h
    · exact law_of (K := K310) X B FO N fact_K310 run_K310 num_K310 tail_K310 hl e (by decide) h
    · exact law_of (K := K71) X B FO N fact_K71 run_K71 num_K71 tail_K71 hl e (by decide) h
    · exact law_of (K := K131) X B FO N fact_K131 run_K131 num_K131 tail_K131 hl e (by decide) h
    · exact law_of (K := K191) X B FO N fact_K191 run_K191 num_K191 tail_K191 hl e (by decide) h
    · exact law_of (K := K311) X B FO N fact_K311 run_K311 num_K311 tail_K311 hl e (by decide) h
  obtain ⟨st', hb⟩ := key
  exact fn_call (k := 85) B (fn100 X) (by decide +kernel) rfl rfl (st' := st') hb
end
end Mine
end
section
open PySem PySem.W PySem.Calls PyProof.Rows PySem.Spec PySem.SeqAt PySem.SeqRoads2 PySem.MeetsSeq
set_option Elab.async false
set_option maxRecDepth 100000
set_option linter.unusedVariables false
namespace Mine
theorem gh_In {P : Params} {h : Heap} (X : (hd.heap_39 P).In h) : (hd.heap_39 P).In (gh h) := fun a o e => gh_get (X a o e) fun m => by
  have h1 : (hd.heap_39 P).lookup 44 = none := by kernel_rfl
  have h2 : (hd.heap_39 P).lookup 51 = none := by kernel_rfl
  simp only [tabs, List.mem_cons, List.not_mem_nil, or_false] at m
  rcases m with rfl | rfl
  · rw [h1] at e; cases e
  · rw [h2] at e; cases e
theorem topRead_gh {p : Program} {loose : List Str} {mg mb : Str → Option Value} {h : Heap} (T : TopRead p loose mg mb h) : TopRead p loose mg mb (gh h) :=
  ⟨ns_gh T.g (by decide), ns_gh T.b (by decide), let ⟨mc, hn, e⟩ := T.nolimit; ⟨mc, ns_gh hn (by decide), e⟩, T.builtins, T.free⟩
theorem ti_0 {h : Heap} (hT : ∀ P, P ∈ [51, 44] → h.get? P = some (tabObj #[])) : TI [] h := fun t ht => by
  refine ⟨#[], hT _ ?_, trivial, .inl rfl⟩
  simp only [TT, List.mem_cons, List.not_mem_nil, or_false] at ht
  rcases ht with rfl | rfl <;> simp
theorem nest_of {W : Wd} {P : Params} {mg : Str → Option Value} (X : (hd.heap_39 P).In W.base) (hg : W.base.Ns mainGlobals mg) {bm : Addr} {ob : Obj} (h1 : mg (Str.ofString "__builtins__") = some (.ref bm)) (h2 : bm ≠ builtinsNs) (h3 : W.base.get? bm = some ob) (h4 : ob.cls = .type "module") (h5 : ob.dict = some builtinsNs) (h6 : ob.data = .plain) : NestOK W where
  hd := fun t ht => by
    simp only [TT, List.mem_cons, List.not_mem_nil, or_false] at ht
    rcases ht with rfl | rfl
    · exact codeHd_of_K X (by kernel_rfl)
    · exact codeHd_of_K X (by kernel_rfl)
  g := by
    have hne : bm ≠ mainGlobals := fun e => by
      obtain ⟨o, es, ep, ho, hd, _⟩ := hg
      rw [e, ho] at h3
      cases h3
      rw [h6] at hd; cases hd
    exact ⟨mg, hg, bm, ob, h1, h2, hne, h3, h4, h5, h6⟩
/-- the tables alone have grown -/
theorem oldK_of {P : Params} {s s' : Shared} (X : (hd.heap_39 P).In s.heap) (hT : ∀ P, P ∈ [51, 44] → s.heap.get? P = some (tabObj #[])) (e : Ext s s') : OldK s.heap s'.heap := by
  have hh : ∀ t ∈ TT, CodeHd s.heap t.c t.P ∧ s.heap.get? t.P = some (tabObj #[]) := fun t ht => by
    simp only [TT, List.mem_cons, List.not_mem_nil, or_false] at ht
    rcases ht with rfl | rfl
    · exact ⟨codeHd_of_K X (by kernel_rfl), hT _ (by simp)⟩
    · exact ⟨codeHd_of_K X (by kernel_rfl), hT _ (by simp)⟩
  have hp : ∀ b ∈ tabs, ∃ t ∈ TT, t.P = b := fun b hb => by
    simp only [tabs, List.mem_cons, List.not_mem_nil, or_false] at hb
    rcases hb with rfl | rfl
    · exact ⟨_, .head _, rfl⟩
    · exact ⟨_, .tail _ (.head _), rfl⟩
  have hs : ∀ t ∈ TT, ∃ more, s'.heap.get? t.P = some (tabObj (#[] ++ more)) := fun t ht => by
    rcases e.tab t ht #[] (hh t ht).2 trivial with h | ⟨_, c', _, _, h⟩
    · exact ⟨#[], h⟩
    · exact ⟨_, h⟩
  have hk : ∀ b o, b ∉ tabs → s.heap.get? b = some o → s'.heap.get? b = some o := fun b o hb ho => of_gh (e.kp' b o (gh_get ho hb))
  refine ⟨fun b o ho => ?_, fun b o ho => ?_⟩
  · by_cases hb : b ∈ tabs
    · obtain ⟨t, ht, rfl⟩ := hp b hb
      obtain ⟨h1, h2⟩ := hh t ht
      obtain ⟨more, h3⟩ := hs t ht
      rw [h2] at ho
      cases ho
      exact .inr (.inl ⟨(h1.tab h2).isCodeTable, rfl, #[], more, rfl, h3⟩)
    · exact .inl (hk b o hb ho)
  · by_cases hb : b ∈ tabs
    · obtain ⟨t, ht, rfl⟩ := hp b hb
      obtain ⟨more, h3⟩ := hs t ht
      exact ⟨_, h3⟩
    · exact ⟨o, hk b o hb ho⟩
theorem areps_ints {vs : List Value} {ns : List Int} (h : IntsAre vs ns) : AReps vs (ns.map .int) := by
  induction h with
  | nil => trivial
  | cons n t _ ih => exact ⟨⟨t, rfl⟩, ih⟩
theorem ends {c : ClaimW} {cl : Str → Option Addr} {mean : ExcName → Option Value} {args : List WData} {P : Params} {s s' : Shared} (X : (hd.heap_39 P).In s.heap) (hT : ∀ P, P ∈ [51, 44] → s.heap.get? P = some (tabObj #[])) (hg : s.gens = #[]) (e : Ext s s')
    (hr : ∀ cls, c.raises args cls = false) (hp : c.post args (.bool true) args = true) : GoodWG c cl mean args s (.ok (.ret (.bool true))) s' :=
  ⟨.inl ⟨_, _, [], rfl, hr, .bool true, hp, fun _ => ⟨List.nodup_nil, fun _ hm => nomatch hm⟩⟩, oldK_of X hT e, e.os, .of_eq (e.gens.trans hg)⟩
end Mine
end
section
open PySem PySem.W PyProof.Rows
set_option Elab.async false
set_option maxRecDepth 100000
set_option maxHeartbeats 8000000
namespace Mine
theorem well_obj {P : Params} {h : Heap} {a : Addr} {xs : List WData} {vs : List Value} (hW : Well P h (.ref a) (.list xs)) (hL : h.IsList a vs.toArray) : h.get? a = some { cls := .type "list", data := .seq vs.toArray } := by
  cases hW with
  | list hw _ =>
    obtain ⟨o, ho, _, n, hn⟩ := hL
    rw [hw] at ho
    cases ho
    cases hn
    exact hw
/-- from the outside -/
theorem outer {p : Program} {w : World} {s₁ : Shared} {loose : List Str} {mg mb : Str → Option Value} {q : Program} {fa a : Addr} {vs : List Value} {ns : List Int} {Q : Value → Shared → Prop} {E : Value → Shared → Prop} (KX : (hd.heap_39 w.params).In s₁.heap) (hT : ∀ P, P ∈ [51, 44] → s₁.heap.get? P = some (tabObj #[]))
    (T : TopRead q loose mg mb s₁.heap) (bm : ∃ bm ob, mg (Str.ofString "__builtins__") = some (.ref bm) ∧ bm ≠ builtinsNs ∧ s₁.heap.get? bm = some ob ∧ ob.cls = .type "module" ∧ ob.dict = some builtinsNs ∧ ob.data = .plain)
    (hmg : mg (Str.ofString "law") = some (.ref fa)) (hI : IntsAre vs ns) (hl : ns.length ≤ 63) (hw : s₁.heap.get? a = some { cls := .type "list", data := .seq vs.toArray })
    (h : ∀ s', Ext s₁ s' → Q (.bool true) s') : wpAny (model p w) callerA (PySem.call (.ref fa) [.ref a]) Q E s₁ := by
  have hfa : fa = 100 := by
    have e := mg_of KX T.g (show nsIn (hd.heap_39 w.params) mainGlobals (Str.ofString "law") = some (some (.ref 100)) from by kernel_rfl)
    rw [hmg] at e
    cases e; rfl
  subst hfa
  let W : Wd := ⟨p, w, gh s₁.heap⟩
  have X : (hd.heap_39 w.params).In W.base := gh_In KX
  have TR : TopRead q loose mg mb W.base := topRead_gh T
  have B : BaseOK W := baseOK_of X TR
  have FO : FlagsOK W := flagsOK_of X
  obtain ⟨bm, ob, b1, b2, b3, b4, b5, b6⟩ := bm
  have N : NestOK W := nest_of X TR.g b1 b2 (gh_get b3 fun m => by
    have := hT bm (by simp only [tabs, List.mem_cons, List.not_mem_nil, or_false] at m ⊢; exact m.symm)
    rw [b3] at this
    cases this
    cases b6) b4 b5 b6
  have ok : OK W s₁ := ⟨ti_0 hT, fun _ _ e => e⟩
  have ha : a ∉ tabs := fun m => by
    have := hT a (by simp only [tabs, List.mem_cons, List.not_mem_nil, or_false] at m ⊢; exact m.symm)
    rw [hw] at this
    cases this
  refine wp_false (W := W) (law_call X B FO N hl callerA s₁ [.ref a] Q ⟨rfl, by decide, by decide⟩ ok ⟨⟨a, vs, _, rfl, gh_get hw ha, areps_ints hI⟩, trivial⟩ fun v s' e r => ?_)
  obtain rfl : v = .bool true := r
  exact h s' e
end Mine
theorem PySem.Challenge.cw_rl0064_01_holds : PySem.Challenge.rw_rl0064_01.Holds := by
  refine Mine.hd ?_
  intro w s₀ s₁ mg mb G Y fa o pm cd doc dV kV ho hd hcd hD hmg hg args vals as hpre hlay hrd hwl hlo
  have KX := km_in_of Y
  have hT8 := km_tabs_of Y
  have T := topRead_of G.T
  have bm := G.T.bmain
  clear G ho hd hcd hD Y
  wrow_args hpre hlay hrd hwl hlo
  rename IntsAre _ _ => hI
  rename Well _ _ _ _ => hW
  rename ¬ _ < _ => hl
  rename Heap.IsList _ _ _ => hL
  exact Mine.outer KX hT8 T bm hmg hI (by omega) (Mine.well_obj hW hL) fun s' e => Mine.ends KX hT8 hg e (fun _ => rfl) (by first | kernel_rfl | wrow_post)
end
