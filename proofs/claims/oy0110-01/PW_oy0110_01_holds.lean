import PyProof.Rows.All
import Wide.All
import OpenK.AllK
import Wide.FinOn
import PySem.Challenge.RW_oy0110_01
section
open PySem PySem.W PyProof.Rows
set_option Elab.async false
set_option maxRecDepth 100000
set_option maxHeartbeats 8000000
namespace Mine
open_top hd for PySem.Challenge.rw_oy0110_01
end Mine
end
section
open PySem PySem.W PyProof.Rows
set_option Elab.async false
set_option maxRecDepth 100000
namespace Mine

/-- plain data -/
inductive D where
  | none | bool (b : Bool) | int (i : Int) | str (s : Str) | byt (b : Array UInt8) | typ (n : String) | ref (a : Addr) | list (ds : List D)

noncomputable def Im (v : Value) : D → Prop
  | .none => v = .none
  | .bool b => v = .bool b
  | .int i => ∃ t, v = .int i t
  | .str x => ∃ t, v = .str x t
  | .byt b => ∃ t, v = .bytes b t
  | .typ n => v = .type n
  | .ref a => v = .ref a
  | .list _ => False

noncomputable def ImL : List Value → List D → Prop
  | [], [] => True
  | v :: vs, d :: ds => Im v d ∧ ImL vs ds
  | _, _ => False

noncomputable def Rd (bad : Addr → Prop) (h : Heap) (v : Value) (d : D) : Prop :=
  match d with
  | .list ds => ∃ a vs, v = .ref a ∧ ¬ bad a ∧ h.PlainList a vs.toArray ∧ ImL vs ds
  | d => Im v d

noncomputable def RdL (bad : Addr → Prop) (h : Heap) : List Value → List D → Prop
  | [], [] => True
  | v :: vs, d :: ds => Rd bad h v d ∧ RdL bad h vs ds
  | _, _ => False

theorem Rd.mono {bad : Addr → Prop} {h h' : Heap} {v : Value} {d : D} (r : Rd bad h v d) (k : ∀ b o, h.get? b = some o → h'.get? b = some o) : Rd bad h' v d := by
  cases d with
  | list ds =>
    obtain ⟨a, vs, e, nb, hl, hi⟩ := r
    exact ⟨a, vs, e, nb, hl.at fun o e => k _ o e, hi⟩
  | _ => exact r
theorem Rd.weak {bad bad' : Addr → Prop} {h : Heap} {v : Value} {d : D} (r : Rd bad h v d) (k : ∀ a, bad' a → bad a) : Rd bad' h v d := by
  cases d with
  | list ds =>
    obtain ⟨a, vs, e, nb, hl, hi⟩ := r
    exact ⟨a, vs, e, fun q => nb (k a q), hl, hi⟩
  | _ => exact r
theorem Rd.ofIm {bad : Addr → Prop} {h : Heap} {v : Value} {d : D} (r : Im v d) : Rd bad h v d := by
  cases d with
  | list ds => exact r.elim
  | _ => exact r
theorem Rd.tail {bad : Addr → Prop} {h : Heap} {v : Value} {ds : List D} {a : Addr} {vs : List Value} (e : v = .ref a) (nb : ¬ bad a) (hl : h.PlainList a vs.toArray) (hi : ImL vs ds) : Rd bad h v (.list ds) := ⟨a, vs, e, nb, hl, hi⟩
theorem RdL.mono {bad : Addr → Prop} {h h' : Heap} : ∀ {vs : List Value} {ds : List D}, RdL bad h vs ds → (∀ b o, h.get? b = some o → h'.get? b = some o) → RdL bad h' vs ds
  | [], [], _, _ => trivial
  | _ :: _, _ :: _, r, k => ⟨r.1.mono k, RdL.mono r.2 k⟩
  | [], _ :: _, r, _ => r.elim
  | _ :: _, [], r, _ => r.elim
theorem RdL.weak {bad bad' : Addr → Prop} {h : Heap} : ∀ {vs : List Value} {ds : List D}, RdL bad h vs ds → (∀ a, bad' a → bad a) → RdL bad' h vs ds
  | [], [], _, _ => trivial
  | _ :: _, _ :: _, r, k => ⟨r.1.weak k, RdL.weak r.2 k⟩
  | [], _ :: _, r, _ => r.elim
  | _ :: _, [], r, _ => r.elim
theorem ImL.length : ∀ {vs : List Value} {ds : List D}, ImL vs ds → vs.length = ds.length
  | [], [], _ => rfl
  | _ :: _, _ :: _, r => by rw [List.length_cons, List.length_cons, ImL.length r.2]
  | [], _ :: _, r => r.elim
  | _ :: _, [], r => r.elim
theorem ImL.append : ∀ {vs vs' : List Value} {ds ds' : List D}, ImL vs ds → ImL vs' ds' → ImL (vs ++ vs') (ds ++ ds')
  | [], _, [], _, _, r => r
  | _ :: _, _, _ :: _, _, r, r' => ⟨r.1, ImL.append r.2 r'⟩
  | [], _, _ :: _, _, r, _ => r.elim
  | _ :: _, _, [], _, r, _ => r.elim
theorem ImL.get : ∀ {vs : List Value} {ds : List D}, ImL vs ds → ∀ {i : Nat} {d : D}, ds[i]? = some d → ∃ v, vs[i]? = some v ∧ Im v d
  | [], [], _, _, _, e => by simp at e
  | v :: _, d :: _, r, 0, _, e => by
    simp at e; subst e
    exact ⟨v, rfl, r.1⟩
  | _ :: _, _ :: _, r, i + 1, _, e => by
    have := ImL.get r.2 (i := i) (by simpa using e)
    simpa using this
  | [], _ :: _, r, _, _, _ => r.elim
  | _ :: _, [], r, _, _, _ => r.elim
theorem ImL.getV : ∀ {vs : List Value} {ds : List D}, ImL vs ds → ∀ {i : Nat} {v : Value}, vs[i]? = some v → ∃ d, ds[i]? = some d ∧ Im v d
  | [], [], _, _, _, e => by simp at e
  | v :: _, d :: _, r, 0, _, e => by
    simp at e; subst e
    exact ⟨d, rfl, r.1⟩
  | _ :: _, _ :: _, r, i + 1, _, e => by
    have := ImL.getV r.2 (i := i) (by simpa using e)
    simpa using this
  | [], _ :: _, r, _, _, _ => r.elim
  | _ :: _, [], r, _, _, _ => r.elim
theorem ImL.take : ∀ {vs : List Value} {ds : List D} (n : Nat), ImL vs ds → ImL (vs.take n) (ds.take n)
  | [], [], _, _ => by simp [ImL]
  | _ :: _, _ :: _, 0, _ => by simp [ImL]
  | _ :: _, _ :: _, n + 1, r => ⟨r.1, ImL.take n r.2⟩
  | [], _ :: _, _, r => r.elim
  | _ :: _, [], _, r => r.elim
theorem ImL.drop : ∀ {vs : List Value} {ds : List D} (n : Nat), ImL vs ds → ImL (vs.drop n) (ds.drop n)
  | [], [], _, _ => by simp [ImL]
  | _ :: _, _ :: _, 0, r => r
  | _ :: _, _ :: _, n + 1, r => ImL.drop n r.2
  | [], _ :: _, _, r => r.elim
  | _ :: _, [], _, r => r.elim

theorem kRefl (s : Shared) : Keeps s s := ⟨s.heap, s.toks, rfl, fun _ _ e => e⟩
theorem kTrans {a b c : Shared} (x : Keeps a b) (y : Keeps b c) : Keeps a c := by
  obtain ⟨h1, t1, rfl, k1⟩ := x
  obtain ⟨h2, t2, rfl, k2⟩ := y
  exact ⟨h2, t2, rfl, fun b o e => k2 b o (k1 b o e)⟩
theorem kToks {s : Shared} {t : Nat} : Keeps s { s with toks := t } := ⟨s.heap, t, rfl, fun _ _ e => e⟩
theorem kHeap {a b : Shared} (x : Keeps a b) : ∀ c o, a.heap.get? c = some o → b.heap.get? c = some o := by
  obtain ⟨h1, t1, rfl, k1⟩ := x
  exact k1
theorem kMk {s : Shared} {h : Heap} {t : Nat} (k : ∀ b o, s.heap.get? b = some o → h.get? b = some o) : Keeps s { s with heap := h, toks := t } := ⟨h, t, rfl, k⟩

noncomputable abbrev KK (w : World) : Frag := hd.heap_39 w.params
noncomputable abbrev prg : Program := PySem.Challenge.rw_oy0110_01.row.prog

structure Gd (w : World) (h : Heap) : Prop where
  k : (KK w).In h
  g : ∃ mg, h.Ns mainGlobals mg
  b : ∃ mb, h.Ns builtinsNs mb ∧ ∀ x : Str, x ≠ "__name__" → mb x = bootBuiltins x
  lim : h.NoLimit
theorem Gd.mono {w : World} {h h' : Heap} (g : Gd w h) (k : ∀ b o, h.get? b = some o → h'.get? b = some o) : Gd w h' where
  k := g.k.keeps k
  g := let ⟨mg, e⟩ := g.g; ⟨mg, e.keeps k⟩
  b := let ⟨mb, e, r⟩ := g.b; ⟨mb, e.keeps k, r⟩
  lim := g.lim.keeps k

structure Ok (n : Nat) (A : Around) : Prop where
  hh : A.handled = none
  dep : A.depth + n < recursionLimit
  un : A.units + 8 * n < cLine
theorem Ok.deeper {n : Nat} {A : Around} (h : Ok (n + 1) A) (env : Env) : Ok n (A.deeper env) := by
  have h1 := h.dep
  have h2 := h.un
  refine ⟨h.hh, ?_, ?_⟩
  · show A.depth + 1 + n < _
    omega
  · show A.units + 3 + 8 * n < _
    omega
theorem Ok.le {n m : Nat} {A : Around} (h : Ok n A) (l : m ≤ n) : Ok m A := ⟨h.hh, by have := h.dep; omega, by have := h.un; omega⟩

noncomputable abbrev St := List (Str × D)
noncomputable abbrev Own := Option (Str × Addr × List D)
noncomputable def fad (env : Env) : List Addr := env.locals :: env.cells.map (·.2)
noncomputable def bad (env : Env) (o : Own) (a : Addr) : Prop := a ∈ fad env ∨ ∃ x ds, o = some (x, a, ds)

noncomputable def dbg (x : Str) : Prop := (x == ("__debug__" : Str)) = false
noncomputable def Var (env : Env) (h : Heap) (m : Str → Option Value) (x : Str) (v : Value) : Prop :=
  dbg x ∧ ((env.kindOf x = some .local ∧ m x = some v) ∨ (∃ c ob, (env.kindOf x = some .cell ∨ env.kindOf x = some .free) ∧ x ≠ "__classdict__" ∧ env.cells.lookup x = some c ∧ h.get? c = some ob ∧ ob.data = .cell (some v)))

structure Fm (w : World) (env : Env) (σ : St) (o : Own) (g h : Heap) : Prop where
  gd : Gd w g
  keep : ∀ b ob, g.get? b = some ob → h.get? b = some ob
  fr : ∀ a ∈ fad env, g.get? a = none
  fn : env.scope.kind = .function
  gl : env.globals = mainGlobals
  bl : env.builtins = builtinsNs
  cl : ∀ p ∈ env.cells, p.2 ≠ env.locals ∧ ∃ ob, h.get? p.2 = some ob ∧ ∃ u, ob.data = .cell u
  ns : ∃ m, h.Ns env.locals m ∧ (∀ p ∈ σ, ∃ v, Var env h m p.1 v ∧ Rd (bad env o) h v p.2) ∧
    (∀ x a ds, o = some (x, a, ds) → g.get? a = none ∧ a ∉ fad env ∧ env.kindOf x = some .local ∧ dbg x ∧ m x = some (.ref a) ∧ ∃ vs, h.PlainList a vs.toArray ∧ ImL vs ds)

theorem Var.mono {env : Env} {h h' : Heap} {m : Str → Option Value} {x : Str} {v : Value} (r : Var env h m x v) (k : ∀ b o, h.get? b = some o → h'.get? b = some o) : Var env h' m x v := by
  refine ⟨r.1, r.2.imp id ?_⟩
  rintro ⟨c, ob, h1, h2, h3, h4, h5⟩
  exact ⟨c, ob, h1, h2, h3, k _ _ h4, h5⟩

theorem Fm.mono {w : World} {env : Env} {σ : St} {o : Own} {g h h' : Heap} (f : Fm w env σ o g h) (k : ∀ b ob, h.get? b = some ob → h'.get? b = some ob) : Fm w env σ o g h' where
  gd := f.gd
  keep := fun b ob e => k b ob (f.keep b ob e)
  fr := f.fr
  fn := f.fn
  gl := f.gl
  bl := f.bl
  cl := fun p hp => let ⟨a, ob, e, cc⟩ := f.cl p hp; ⟨a, ob, k _ _ e, cc⟩
  ns := by
    obtain ⟨m, hn, hs, ho⟩ := f.ns
    refine ⟨m, hn.keeps k, fun p hp => ?_, fun x a ds e => ?_⟩
    · obtain ⟨v, hv, hr⟩ := hs p hp
      exact ⟨v, hv.mono k, hr.mono k⟩
    · obtain ⟨h1, h2, h3, h3', h4, vs, h5, h6⟩ := ho x a ds e
      exact ⟨h1, h2, h3, h3', h4, vs, h5.at fun o e => k _ o e, h6⟩
theorem Fm.gh {w : World} {env : Env} {σ : St} {o : Own} {g h : Heap} (f : Fm w env σ o g h) : Gd w h := f.gd.mono f.keep
/-- what is bad is there -/
theorem Fm.badIn {w : World} {env : Env} {σ : St} {o : Own} {g h : Heap} (f : Fm w env σ o g h) {a : Addr} (b : bad env o a) : ∃ ob, h.get? a = some ob := by
  obtain ⟨m, hn, hs, ho⟩ := f.ns
  rcases b with b | ⟨x, ds, e⟩
  · rcases List.mem_cons.mp b with rfl | b
    · obtain ⟨ob, _, _, e, _⟩ := hn; exact ⟨ob, e⟩
    · obtain ⟨p, hp, rfl⟩ := List.mem_map.mp b
      obtain ⟨ob, e, _⟩ := (f.cl p hp).2
      exact ⟨ob, e⟩
  · obtain ⟨_, _, _, _, _, vs, ⟨n, e⟩, _⟩ := ho x a ds e
    exact ⟨_, e⟩
theorem Fm.badNot {w : World} {env : Env} {σ : St} {o : Own} {g h : Heap} (f : Fm w env σ o g h) {a : Addr} (b : bad env o a) : g.get? a = none := by
  obtain ⟨m, hn, hs, ho⟩ := f.ns
  rcases b with b | ⟨x, ds, e⟩
  · exact f.fr a b
  · exact (ho x a ds e).1

/-- an expression gives d -/
structure Ev (w : World) (A : Around) (env : Env) (σ : St) (o : Own) (e : Expr) (d : D) : Prop where
  out : ∀ g s, Fm w env σ o g s.heap → wpAny (model prg w) A (eval e env) (fun v s' => Keeps s s' ∧ Rd (bad env o) s'.heap v d) (fun _ _ => False) s
/-- a test gives b -/
structure Ts (w : World) (A : Around) (env : Env) (σ : St) (o : Own) (e : Expr) (b : Bool) : Prop where
  out : ∀ g s, Fm w env σ o g s.heap → wpAny (model prg w) A (isTrue e env (eval e env)) (fun v s' => Keeps s s' ∧ v = b) (fun _ _ => False) s

theorem wpF {α : Type} {M : Model} {A : Around} {t : Sem α} {Q Q' : α → Shared → Prop} {E : Value → Shared → Prop} {s : Shared} (h : wpAny M A t Q (fun _ _ => False) s) (hq : ∀ a s', Q a s' → Q' a s') : wpAny M A t Q' E s :=
  wpAny_mono h hq (fun _ _ x => x.elim)

inductive Fl where
  | next | brk | cont | ret (d : D) | rown
noncomputable abbrev Post := Fl → St → Own → Prop
noncomputable def FlR (env : Env) (o : Own) (h : Heap) (f : Flow) : Fl → Prop
  | .next => f = .next
  | .brk => f = .brk
  | .cont => f = .cont
  | .ret d => ∃ v, f = .ret v ∧ Rd (bad env o) h v d
  | .rown => ∃ x a ds, o = some (x, a, ds) ∧ f = .ret (.ref a)
/-- what stands behind a run of statements -/
noncomputable def Bh (w : World) (env : Env) (g : Heap) (P : Post) (s : Shared) (f : Flow) (s' : Shared) : Prop :=
  ∃ fl σ o, P fl σ o ∧ (∃ h' tk, s' = { s with heap := h', toks := tk }) ∧ Fm w env σ o g s'.heap ∧ FlR env o s'.heap f fl
structure Ex (w : World) (A : Around) (env : Env) (σ : St) (o : Own) (ss : List Stmt) (P : Post) : Prop where
  out : ∀ g s, Fm w env σ o g s.heap → wpAny (model prg w) A (execs ss env) (Bh w env g P s) (fun _ _ => False) s
structure Ex1 (w : World) (A : Around) (env : Env) (σ : St) (o : Own) (st : Stmt) (P : Post) : Prop where
  out : ∀ g s, Fm w env σ o g s.heap → wpAny (model prg w) A (exec st env) (Bh w env g P s) (fun _ _ => False) s

section
variable {w : World} {A : Around} {env : Env} {σ σ' : St} {o : Own} {P : Post}

theorem Bh.trans {g : Heap} {s s' s'' : Shared} {f : Flow} (k : ∃ h' tk, s' = { s with heap := h', toks := tk }) (b : Bh w env g P s' f s'') : Bh w env g P s f s'' := by
  obtain ⟨h1, t1, rfl⟩ := k
  obtain ⟨fl, σ, o, hp, ⟨h2, t2, rfl⟩, r⟩ := b
  exact ⟨fl, σ, o, hp, ⟨h2, t2, rfl⟩, r⟩
theorem kSh {a b : Shared} (x : Keeps a b) : ∃ h' tk, b = { a with heap := h', toks := tk } := let ⟨h, t, e, _⟩ := x; ⟨h, t, e⟩

theorem ex_nil (h : P .next σ o) : Ex w A env σ o [] P := ⟨fun g s f => wpAny_execs_nil ⟨.next, σ, o, h, ⟨s.heap, s.toks, rfl⟩, f, rfl⟩⟩
/-- on to the next statement -/
noncomputable def Go (w : World) (A : Around) (env : Env) (rest : List Stmt) (P : Post) : Post := fun fl σ' o' => match fl with
  | .next => Ex w A env σ' o' rest P
  | fl => P fl σ' o'
theorem ex_cons {st : Stmt} {rest : List Stmt} (h : Ex1 w A env σ o st (Go w A env rest P)) : Ex w A env σ o (st :: rest) P := by
  refine ⟨fun g s f => ?_⟩
  refine wpAny_execs_cons (wpF (h.out g s f) fun fl s' q => ?_)
  obtain ⟨fl', σ', o', hp, ⟨h', tk, rfl⟩, fm, fr⟩ := q
  cases fl' with
  | next =>
    cases fr
    exact wpAny_mono (hp.out g _ fm) (fun f2 s2 q2 => Bh.trans ⟨h', tk, rfl⟩ q2) fun _ _ x => x
  | brk => cases fr; exact ⟨_, _, _, hp, ⟨h', tk, rfl⟩, fm, rfl⟩
  | cont => cases fr; exact ⟨_, _, _, hp, ⟨h', tk, rfl⟩, fm, rfl⟩
  | ret d => obtain ⟨v, rfl, r⟩ := fr; exact ⟨_, _, _, hp, ⟨h', tk, rfl⟩, fm, v, rfl, r⟩
  | rown => obtain ⟨x, a, ds, e, rfl⟩ := fr; exact ⟨_, _, _, hp, ⟨h', tk, rfl⟩, fm, x, a, ds, e, rfl⟩
end
end Mine
end
section
open PySem PySem.W PyProof.Rows
set_option Elab.async false
set_option maxRecDepth 100000
namespace Mine
section
variable {w : World} {A : Around} {env : Env} {σ σ' : St} {o : Own} {P : Post}

theorem ev_int {i : Int} {k : Nat} {p : Pos} : Ev w A env σ o (.Constant (.int i) k p) (.int i) := ⟨fun _ _ _ => wpAny_Constant_int ⟨kToks, _, rfl⟩⟩
theorem ev_str {x : Str} {k : Nat} {p : Pos} : Ev w A env σ o (.Constant (.str x) k p) (.str x) := ⟨fun _ _ _ => Calls.Constant_str ⟨kToks, _, rfl⟩⟩
theorem ev_byt {x : List UInt8} {k : Nat} {p : Pos} : Ev w A env σ o (.Constant (.bytes x) k p) (.byt x.toArray) := ⟨fun _ s _ _ _ _ => ⟨kToks, _, rfl⟩⟩
theorem ev_bool {b : Bool} {k : Nat} {p : Pos} : Ev w A env σ o (.Constant (.bool b) k p) (.bool b) := ⟨fun _ s _ => wpAny_pure ⟨kRefl s, rfl⟩⟩
theorem ev_none {k : Nat} {p : Pos} : Ev w A env σ o (.Constant .none k p) .none := ⟨fun _ s _ => wpAny_pure ⟨kRefl s, rfl⟩⟩

theorem ld_cell {x : Str} {c : Addr} {ob : Obj} {v : Value} {s : Shared} {Q : Value → Shared → Prop} {E : Value → Shared → Prop} (hk : env.scope.kind = .function) (hx : env.kindOf x = some .cell ∨ env.kindOf x = some .free)
    (hc0 : x ≠ "__classdict__") (hc : env.cells.lookup x = some c) (ho : s.heap.get? c = some ob) (hd : ob.data = .cell (some v)) (h : Q v s) : wpAny (model prg w) A (loadName env x) Q E s := by
  unfold loadName
  have g : wpAny (model prg w) A (do cellGet (← cellOf env x)) (fun r s' => r = some v ∧ s' = s) E s := by
    unfold cellOf
    rw [hc]
    refine wpAny_bind (wpAny_pure ?_)
    unfold cellGet
    refine wpAny_bind (wpAny_load ho ?_)
    rw [hd]
    exact wpAny_pure ⟨rfl, rfl⟩
  have g' : ∀ (k : Option Value → Sem Value), wpAny (model prg w) A (k (some v)) Q E s → wpAny (model prg w) A (do let c ← cellOf env x; let r ← cellGet c; k r) Q E s := by
    intro k hk
    unfold cellOf
    rw [hc]
    refine wpAny_bind (wpAny_pure ?_)
    unfold cellGet
    refine wpAny_bind (wpAny_bind (wpAny_load ho ?_))
    rw [hd]
    exact wpAny_pure hk
  rcases hx with hx | hx
  · simp only [Env.blockKind, hk, hx, ScopeKind.isAnnotationScope, Bool.false_and, Bool.false_eq_true, if_false]
    exact g' _ (wpAny_pure h)
  · have hne : (x == ("__classdict__" : Str)) = false := by simpa using hc0
    simp only [Env.blockKind, hk, hx, ScopeKind.isAnnotationScope, Bool.false_and, Bool.false_eq_true, if_false, hne]
    exact g' _ (wpAny_pure h)

theorem ev_name {x : Str} {p : Pos} {d : D} (hm : (x, d) ∈ σ) : Ev w A env σ o (.Name x p) d := by
  refine ⟨fun g s f => ?_⟩
  obtain ⟨m, hn, hs, _⟩ := f.ns
  obtain ⟨v, ⟨hd, hv⟩, hr⟩ := hs _ hm
  refine wpAny_Name ?_ hd
  rcases hv with ⟨hk, hv⟩ | ⟨c, ob, hk, h0, hc, ho, hdt⟩
  · exact wpAny_loadName_local f.fn hk hn hv ⟨kRefl s, hr⟩
  · exact ld_cell f.fn hk h0 hc ho hdt ⟨kRefl s, hr⟩

/-- what a global name holds -/
noncomputable def GV (w : World) (x : Str) (v : Value) : Prop := dbg x ∧ ∀ (A : Around) (env : Env) (s : Shared) (Q : Value → Shared → Prop) (E : Value → Shared → Prop), env.globals = mainGlobals → env.builtins = builtinsNs → Gd w s.heap → Q v s →
  wpAny (model prg w) A (loadGlobal env x) Q E s
theorem gv_glob {x : Str} {v : Value} (hd : dbg x) (hx : nsIn (KK w) mainGlobals x = some (some v)) : GV w x v := by
  refine ⟨hd, fun A env s Q E hg hb g h => ?_⟩
  obtain ⟨mg, e⟩ := g.g
  exact Calls.loadGlobal_global (by rw [hg]; exact e) (mg_of g.k e hx) h
theorem gv_blt {x : Str} {v : Value} (hd : dbg x) (hx : nsIn (KK w) mainGlobals x = some none) (hv : bootBuiltins x = some v) (hn : x ≠ "__name__") : GV w x v := by
  refine ⟨hd, fun A env s Q E hg hb g h => ?_⟩
  obtain ⟨mb, e, hmb⟩ := g.b
  unfold loadGlobal
  rw [hg, hb]
  refine wpAny_bind (Looks.here (looks_nsIn g.k hx) ?_)
  refine wpAny_bind (wpAny_nsGet e ?_)
  rw [hmb x hn, hv]
  exact wpAny_pure h
theorem ev_glob {x : Str} {p : Pos} {v : Value} {d : D} (hv : GV w x v) (hk : env.kindOf x = some .globalImplicit) (hi : Im v d) : Ev w A env σ o (.Name x p) d := by
  refine ⟨fun g s f => ?_⟩
  exact Calls.Name_function_global f.fn hk (hv.2 A env s _ _ f.gl f.bl f.gh ⟨kRefl s, Rd.ofIm hi⟩) hv.1

theorem ev_globT {x : Str} {p : Pos} {n : String} (hv : GV w x (.type n)) (hk : env.kindOf x = some .globalImplicit) : Ev w A env σ o (.Name x p) (.typ n) := ev_glob hv hk rfl
theorem ev_globB {x : Str} {p : Pos} {b : Array UInt8} {t : Tok} (hv : GV w x (.bytes b t)) (hk : env.kindOf x = some .globalImplicit) : Ev w A env σ o (.Name x p) (.byt b) := ev_glob hv hk ⟨t, rfl⟩
theorem ev_globS {x : Str} {p : Pos} {b : Str} {t : Tok} (hv : GV w x (.str b t)) (hk : env.kindOf x = some .globalImplicit) : Ev w A env σ o (.Name x p) (.str b) := ev_glob hv hk ⟨t, rfl⟩
theorem ev_globR {x : Str} {p : Pos} {a : Addr} (hv : GV w x (.ref a)) (hk : env.kindOf x = some .globalImplicit) : Ev w A env σ o (.Name x p) (.ref a) := ev_glob hv hk rfl
/-- two-place operations -/
structure Bin (w : World) (A : Around) (op : Operator) (a b d : D) : Prop where
  out : ∀ (s : Shared) (va vb : Value), Im va a → Im vb b → wpAny (model prg w) A (binaryOp op va vb) (fun v s' => Keeps s s' ∧ Im v d) (fun _ _ => False) s
noncomputable def isIm : D → Bool
  | .list _ => false
  | _ => true
theorem Rd.im {bd : Addr → Prop} {h : Heap} {v : Value} {d : D} (hi : isIm d = true) (r : Rd bd h v d) : Im v d := by
  cases d with
  | list => cases hi
  | _ => exact r
theorem ev_bin {l r : Expr} {op : Operator} {p : Pos} {a b d : D} (hl : Ev w A env σ o l a) (hr : Ev w A env σ o r b) (hb : Bin w A op a b d) (ia : isIm a = true) (ib : isIm b = true) : Ev w A env σ o (.BinOp l op r p) d := by
  refine ⟨fun g s f => ?_⟩
  refine wpAny_BinOp (wpF (hl.out g s f) fun va s₁ q₁ => wpF (hr.out g s₁ (f.mono (kHeap q₁.1))) fun vb s₂ q₂ => wpF (hb.out s₂ va vb (q₁.2.im ia) (q₂.2.im ib)) fun v s₃ q₃ => ?_)
  exact ⟨kTrans q₁.1 (kTrans q₂.1 q₃.1), Rd.ofIm q₃.2⟩
theorem b_add {a b : Int} : Bin w A .Add (.int a) (.int b) (.int (a + b)) := by constructor; rintro s _ _ ⟨t, rfl⟩ ⟨u, rfl⟩; exact add_int ⟨kToks, _, rfl⟩
theorem b_sub {a b : Int} : Bin w A .Sub (.int a) (.int b) (.int (a - b)) := by constructor; rintro s _ _ ⟨t, rfl⟩ ⟨u, rfl⟩; exact sub_int ⟨kToks, _, rfl⟩
theorem b_mod {a b : Int} (hb : b ≠ 0) : Bin w A .Mod (.int a) (.int b) (.int (a.fmod b)) := by constructor; rintro s _ _ ⟨t, rfl⟩ ⟨u, rfl⟩; exact mod_int' hb ⟨kToks, _, rfl⟩
theorem b_div {a b : Int} (hb : b ≠ 0) (hs : b.natAbs < 1073741824) : Bin w A .FloorDiv (.int a) (.int b) (.int (a.fdiv b)) := by constructor; rintro s _ _ ⟨t, rfl⟩ ⟨u, rfl⟩; exact floordiv_int hb ⟨kToks, _, rfl⟩ (Or.inl (PyProof.noPylong_small hs))
theorem b_and {a b : Int} : Bin w A .BitAnd (.int a) (.int b) (.int (Builtin.bitAnd a b)) := by constructor; rintro s _ _ ⟨t, rfl⟩ ⟨u, rfl⟩; exact and_int ⟨kToks, _, rfl⟩
theorem b_or {a b : Int} : Bin w A .BitOr (.int a) (.int b) (.int (Builtin.bitOr a b)) := by constructor; rintro s _ _ ⟨t, rfl⟩ ⟨u, rfl⟩; exact or_int ⟨kToks, _, rfl⟩
theorem b_shl {a n : Int} (hn : 0 ≤ n) (hn2 : n ≤ 1000000) (ha : a.natAbs < 2 ^ 64) : Bin w A .LShift (.int a) (.int n) (.int (a * 2 ^ n.toNat)) := by constructor; rintro s _ _ ⟨t, rfl⟩ ⟨u, rfl⟩; exact lshift_int_small hn hn2 ha ⟨kToks, _, rfl⟩
theorem b_shr {a n : Int} (hn : 0 ≤ n) : Bin w A .RShift (.int a) (.int n) (.int (a.fdiv (2 ^ n.toNat))) := by constructor; rintro s _ _ ⟨t, rfl⟩ ⟨u, rfl⟩; exact rshift_int hn ⟨kToks, _, rfl⟩
theorem b_mul {a b : Int} (hm : IntMulOk a b) : Bin w A .Mult (.int a) (.int b) (.int (a * b)) := by constructor; rintro s _ _ ⟨t, rfl⟩ ⟨u, rfl⟩; exact PyProof.Rows.mul_int ⟨kToks, _, rfl⟩ hm
theorem b_pow {a n : Int} (hn : 0 ≤ n) (hsz : (Builtin.Int.intBits a : Int) * n ≤ 2 ^ 27) : Bin w A .Pow (.int a) (.int n) (.int (a ^ n.toNat)) := by constructor; rintro s _ _ ⟨t, rfl⟩ ⟨u, rfl⟩; exact pow_int hn hsz ⟨kToks, _, rfl⟩
theorem b_adds {a b : Str} (hz : a.length + b.length ≤ sizeLine) : Bin w A .Add (.str a) (.str b) (.str (a ++ b)) := by constructor; rintro s _ _ ⟨t, rfl⟩ ⟨u, rfl⟩; exact PyProof.Rows.add_str (fun t' tk => ⟨kToks, _, rfl⟩) hz

theorem ev_neg {e : Expr} {p : Pos} {a : Int} (h : Ev w A env σ o e (.int a)) : Ev w A env σ o (.UnaryOp .USub e p) (.int (-a)) := by
  refine ⟨fun g s f => ?_⟩
  show wpAny _ A (do let v ← eval e env; standAt p; holding [v] (unaryOp .USub v)) _ _ s
  refine wpAny_bind (wpF (h.out g s f) fun v s₁ q₁ => wpAny_bind (wpAny_standAt (wpAny_holding ?_)))
  obtain ⟨t, rfl⟩ := q₁.2
  exact PyProof.Rows.neg_int ⟨kTrans q₁.1 kToks, _, rfl⟩
theorem ev_if {c a b : Expr} {p : Pos} {bt : Bool} {d : D} (hc : Ts w A env σ o c bt) (ha : bt = true → Ev w A env σ o a d) (hb : bt = false → Ev w A env σ o b d) : Ev w A env σ o (.IfExp c a b p) d := by
  refine ⟨fun g s f => ?_⟩
  show wpAny _ A (do if ← isTrue c env (eval c env) then eval a env else eval b env) _ _ s
  refine wpAny_bind (wpF (hc.out g s f) fun v s₁ q₁ => ?_)
  obtain ⟨k₁, rfl⟩ := q₁
  cases v with
  | true => exact wpF ((ha rfl).out g s₁ (f.mono (kHeap k₁))) fun v s₂ q₂ => ⟨kTrans k₁ q₂.1, q₂.2⟩
  | false => exact wpF ((hb rfl).out g s₁ (f.mono (kHeap k₁))) fun v s₂ q₂ => ⟨kTrans k₁ q₂.1, q₂.2⟩

/-- comparisons -/
structure Cmp (w : World) (A : Around) (op : CmpOp) (a b : D) (r : Bool) : Prop where
  out : ∀ (bd : Addr → Prop) (s : Shared) (va vb : Value), Gd w s.heap → Rd bd s.heap va a → Rd bd s.heap vb b → wpAny (model prg w) A (compareOp op va vb) (fun v s' => Keeps s s' ∧ v = .bool r) (fun _ _ => False) s
theorem ev_cmp {l r : Expr} {op : CmpOp} {p : Pos} {a b : D} {c : Bool} (hl : Ev w A env σ o l a) (hr : Ev w A env σ o r b) (hb : Cmp w A op a b c) (hm : behindInMarks op r = false) : Ev w A env σ o (.Compare l [op] [r] p) (.bool c) := by
  refine ⟨fun g s f => ?_⟩
  refine wpAny_Compare1 (wpF (hl.out g s f) fun va s₁ q₁ => wpF (hr.out g s₁ (f.mono (kHeap q₁.1))) fun vb s₂ q₂ => ?_) hm
  refine wpF (hb.out (Mine.bad env o) s₂ va vb (f.gh.mono (kHeap (kTrans q₁.1 q₂.1))) (q₁.2.mono (kHeap q₂.1)) q₂.2) fun v s₃ q₃ => ?_
  exact ⟨kTrans q₁.1 (kTrans q₂.1 q₃.1), q₃.2⟩
theorem ts_cmp {l r : Expr} {op : CmpOp} {p : Pos} {a b : D} {c : Bool} (hl : Ev w A env σ o l a) (hr : Ev w A env σ o r b) (hb : Cmp w A op a b c) (hm : behindInMarks op r = false) : Ts w A env σ o (.Compare l [op] [r] p) c := by
  refine ⟨fun g s f => ?_⟩
  refine wpAny_isTrue_Compare1 (wpF (hl.out g s f) fun va s₁ q₁ => wpF (hr.out g s₁ (f.mono (kHeap q₁.1))) fun vb s₂ q₂ => ?_) hm
  refine wpF (hb.out (Mine.bad env o) s₂ va vb (f.gh.mono (kHeap (kTrans q₁.1 q₂.1))) (q₁.2.mono (kHeap q₂.1)) q₂.2) fun v s₃ q₃ => ?_
  obtain ⟨k₃, rfl⟩ := q₃
  exact wpAny_truthy_bool ⟨kTrans q₁.1 (kTrans q₂.1 k₃), rfl⟩
theorem c_eq {a b : Int} : Cmp w A .Eq (.int a) (.int b) (a == b) := by constructor; rintro bd s _ _ _ ⟨t, rfl⟩ ⟨u, rfl⟩; exact PyProof.Rows.eq_int ⟨kRefl s, rfl⟩
theorem c_ne {a b : Int} : Cmp w A .NotEq (.int a) (.int b) (a != b) := by constructor; rintro bd s _ _ _ ⟨t, rfl⟩ ⟨u, rfl⟩; exact PyProof.Rows.ne_int ⟨kRefl s, rfl⟩
theorem c_lt {a b : Int} : Cmp w A .Lt (.int a) (.int b) (decide (a < b)) := by constructor; rintro bd s _ _ _ ⟨t, rfl⟩ ⟨u, rfl⟩; exact PyProof.Rows.lt_int ⟨kRefl s, rfl⟩
theorem c_le {a b : Int} : Cmp w A .LtE (.int a) (.int b) (decide (a ≤ b)) := by constructor; rintro bd s _ _ _ ⟨t, rfl⟩ ⟨u, rfl⟩; exact PyProof.Rows.le_int ⟨kRefl s, rfl⟩
theorem c_gt {a b : Int} : Cmp w A .Gt (.int a) (.int b) (decide (a > b)) := by constructor; rintro bd s _ _ _ ⟨t, rfl⟩ ⟨u, rfl⟩; exact PyProof.Rows.gt_int ⟨kRefl s, rfl⟩
theorem c_ge {a b : Int} : Cmp w A .GtE (.int a) (.int b) (decide (a ≥ b)) := by constructor; rintro bd s _ _ _ ⟨t, rfl⟩ ⟨u, rfl⟩; exact PyProof.Rows.ge_int ⟨kRefl s, rfl⟩
theorem c_nes {a b : Str} : Cmp w A .NotEq (.str a) (.str b) (a != b) := by constructor; rintro bd s _ _ _ ⟨t, rfl⟩ ⟨u, rfl⟩; exact PyProof.Rows.ne_str ⟨kRefl s, rfl⟩
theorem c_ins {x y : Str} : Cmp w A .In (.str y) (.str x) (!(Builtin.Str.occurrences x y 0 x.length 1).isEmpty) := by constructor; rintro bd s _ _ _ ⟨t, rfl⟩ ⟨u, rfl⟩; exact PyProof.Rows.in_str ⟨kRefl s, rfl⟩
theorem c_isT {a b : String} : Cmp w A .Is (.typ a) (.typ b) (a == b) := by
  constructor; rintro bd s _ _ _ rfl rfl
  refine wpAny_is_plain rfl ⟨kRefl s, ?_⟩
  by_cases h : a = b
  · subst h; simp
  · have : (Value.type a) ≠ .type b := fun e => h (Value.type.inj e)
    rw [beq_eq_false_iff_ne.mpr this, beq_eq_false_iff_ne.mpr h]
theorem c_isN {d : D} (hd : isIm d = true) (hn : ∀ v, Im v d → plainIs v .none = true ∧ v ≠ .none) : Cmp w A .Is d .none false := by
  constructor; rintro bd s va _ _ ra rfl
  obtain ⟨h1, h2⟩ := hn va (ra.im hd)
  exact wpAny_is_other h1 h2 ⟨kRefl s, rfl⟩
theorem c_isNotN {d : D} (hd : isIm d = true) (hn : ∀ v, Im v d → plainIs v .none = true ∧ v ≠ .none) : Cmp w A .IsNot d .none true := by
  constructor; rintro bd s va _ _ ra rfl
  obtain ⟨h1, h2⟩ := hn va (ra.im hd)
  exact wpAny_isNot_other h1 h2 ⟨kRefl s, rfl⟩
theorem nn_bool {b : Bool} : ∀ v, Im v (.bool b) → plainIs v .none = true ∧ v ≠ .none := by rintro _ rfl; exact ⟨rfl, fun e => nomatch e⟩
theorem nn_byt {b : Array UInt8} : ∀ v, Im v (.byt b) → plainIs v .none = true ∧ v ≠ .none := by rintro _ ⟨t, rfl⟩; exact ⟨rfl, fun e => nomatch e⟩
theorem nn_str {b : Str} : ∀ v, Im v (.str b) → plainIs v .none = true ∧ v ≠ .none := by rintro _ ⟨t, rfl⟩; exact ⟨rfl, fun e => nomatch e⟩
theorem c_eqs {a b : Str} : Cmp w A .Eq (.str a) (.str b) (a == b) := by constructor; rintro bd s _ _ _ ⟨t, rfl⟩ ⟨u, rfl⟩; exact PyProof.Rows.eq_str ⟨kRefl s, rfl⟩

/-- a chain of two comparisons -/
theorem ts_chain {l m r : Expr} {op₁ op₂ : CmpOp} {p : Pos} {a b c : D} {x y : Bool} (hl : Ev w A env σ o l a) (hm : Ev w A env σ o m b) (hr : Ev w A env σ o r c) (h₁ : Cmp w A op₁ a b x) (h₂ : Cmp w A op₂ b c y)
    (e₂ : behindInMarks op₂ r = false) : Ts w A env σ o (.Compare l [op₁, op₂] [m, r] p) (x && y) := by
  refine ⟨fun g s f => ?_⟩
  show wpAny _ A (do testChain p (← eval l env) [op₁, op₂] [eval m env, markedBehindIn op₂ r (eval r env)]) _ _ s
  rw [markedBehindIn_of_false e₂]
  refine wpAny_bind (wpF (hl.out g s f) fun va s₁ q₁ => ?_)
  show wpAny _ A (do
    let rv ← holding [va] (eval m env)
    standAt p
    let c ← holding [va, rv] (compareOp op₁ va rv)
    release [va, rv] [c]
    if ← holding [c, rv] (truthy c) then testChain p rv [op₂] [eval r env] else pure false) _ _ s₁
  refine wpAny_bind (wpAny_holding (wpF (hm.out g s₁ (f.mono (kHeap q₁.1))) fun vb s₂ q₂ => wpAny_bind (wpAny_standAt (wpAny_bind (wpAny_holding ?_)))))
  refine wpF (h₁.out (Mine.bad env o) s₂ va vb (f.gh.mono (kHeap (kTrans q₁.1 q₂.1))) (q₁.2.mono (kHeap q₂.1)) q₂.2) fun v s₃ q₃ => ?_
  obtain ⟨k₃, rfl⟩ := q₃
  have rel : ∀ {t : Sem Bool} {Q : Bool → Shared → Prop} {E : Value → Shared → Prop}, wpAny (model prg w) A t Q E s₃ → wpAny (model prg w) A (release [va, vb] [.bool x] >>= fun _ => t) Q E s₃ := by
    intro t Q E h Γ q hΓ
    rw [Sem.wp_bind', Sem.wp_release]
    exact h Γ _ hΓ
  refine rel (wpAny_bind (wpAny_holding (wpAny_truthy_bool ?_)))
  have k := kTrans q₁.1 (kTrans q₂.1 k₃)
  cases x with
  | false => exact wpAny_pure ⟨k, rfl⟩
  | true =>
    show wpAny _ A (do
      let rv ← holding [vb] (eval r env)
      standAt p
      let c ← operate [vb, rv] (compareOp op₂ vb rv)
      holding [c] (truthy c)) _ _ s₃
    refine wpAny_bind (wpAny_holding (wpF (hr.out g s₃ (f.mono (kHeap k))) fun vc s₄ q₄ => wpAny_bind (wpAny_standAt (wpAny_bind (wpAny_operating ?_)))))
    refine wpF (h₂.out (Mine.bad env o) s₄ vb vc (f.gh.mono (kHeap (kTrans k q₄.1))) (q₂.2.mono (kHeap (kTrans k₃ q₄.1))) q₄.2) fun v s₅ q₅ => ?_
    obtain ⟨k₅, rfl⟩ := q₅
    exact wpAny_holding (wpAny_truthy_bool ⟨kTrans k (kTrans q₄.1 k₅), rfl⟩)

theorem ts_not {e : Expr} {p : Pos} {b : Bool} (h : Ts w A env σ o e b) : Ts w A env σ o (.UnaryOp .Not e p) (!b) := by
  refine ⟨fun g s f => ?_⟩
  show wpAny _ A (do return !(← isTrue e env (eval e env))) _ _ s
  exact wpAny_bind (wpF (h.out g s f) fun v s₁ q₁ => wpAny_pure ⟨q₁.1, by rw [q₁.2]⟩)
/-- all the tests of a list -/
structure Tss (w : World) (A : Around) (env : Env) (σ : St) (o : Own) (op : BoolOp) (es : List Expr) (b : Bool) : Prop where
  out : ∀ g s, Fm w env σ o g s.heap → wpAny (model prg w) A (allTrue op es env) (fun v s' => Keeps s s' ∧ v = b) (fun _ _ => False) s
theorem ts_op {op : BoolOp} {es : List Expr} {p : Pos} {b : Bool} (h : Tss w A env σ o op es b) : Ts w A env σ o (.BoolOp op es p) b := ⟨fun g s f => h.out g s f⟩
theorem tss_and_nil : Tss w A env σ o .And [] true := ⟨fun _ s _ => wpAny_pure ⟨kRefl s, rfl⟩⟩
theorem tss_or_nil : Tss w A env σ o .Or [] false := ⟨fun _ s _ => wpAny_pure ⟨kRefl s, rfl⟩⟩
theorem tss_and {e : Expr} {es : List Expr} {b c : Bool} (h : Ts w A env σ o e b) (hs : b = true → Tss w A env σ o .And es c) : Tss w A env σ o .And (e :: es) (b && c) := by
  refine ⟨fun g s f => ?_⟩
  show wpAny _ A (do match BoolOp.And, ← isTrue e env (eval e env) with
    | .And, false => pure false
    | .Or, true => pure true
    | _, _ => allTrue .And es env) _ _ s
  refine wpAny_bind (wpF (h.out g s f) fun v s₁ q₁ => ?_)
  obtain ⟨k, rfl⟩ := q₁
  cases v with
  | false => exact wpAny_pure ⟨k, rfl⟩
  | true => exact wpF ((hs rfl).out g s₁ (f.mono (kHeap k))) fun v s₂ q₂ => ⟨kTrans k q₂.1, by rw [q₂.2]; rfl⟩
theorem tss_or {e : Expr} {es : List Expr} {b c : Bool} (h : Ts w A env σ o e b) (hs : b = false → Tss w A env σ o .Or es c) : Tss w A env σ o .Or (e :: es) (b || c) := by
  refine ⟨fun g s f => ?_⟩
  show wpAny _ A (do match BoolOp.Or, ← isTrue e env (eval e env) with
    | .And, false => pure false
    | .Or, true => pure true
    | _, _ => allTrue .Or es env) _ _ s
  refine wpAny_bind (wpF (h.out g s f) fun v s₁ q₁ => ?_)
  obtain ⟨k, rfl⟩ := q₁
  cases v with
  | true => exact wpAny_pure ⟨k, rfl⟩
  | false => exact wpF ((hs rfl).out g s₁ (f.mono (kHeap k))) fun v s₂ q₂ => ⟨kTrans k q₂.1, by rw [q₂.2]; rfl⟩
/-- a plain test -/
theorem ts_plain {e : Expr} {d : D} {b : Bool} (h : Ev w A env σ o e d) (ht : ∀ (s : Shared) (v : Value), Im v d → wpAny (model prg w) A (truthy v) (fun r s' => Keeps s s' ∧ r = b) (fun _ _ => False) s) (hd : isIm d = true)
    (hp : isTrue e env (eval e env) = (do let v ← eval e env; standAt e.pos; holding [v] (truthy v))) : Ts w A env σ o e b := by
  refine ⟨fun g s f => ?_⟩
  rw [hp]
  refine wpAny_bind (wpF (h.out g s f) fun v s₁ q₁ => wpAny_bind (wpAny_standAt (wpAny_holding ?_)))
  exact wpF (ht s₁ v (q₁.2.im hd)) fun r s₂ q₂ => ⟨kTrans q₁.1 q₂.1, q₂.2⟩
theorem t_bool {b : Bool} (s : Shared) (v : Value) : Im v (.bool b) → wpAny (model prg w) A (truthy v) (fun r s' => Keeps s s' ∧ r = b) (fun _ _ => False) s := by rintro rfl; exact wpAny_truthy_bool ⟨kRefl s, rfl⟩
/-- a or b, of bools -/
theorem ev_or {a b : Expr} {p : Pos} {x y : Bool} (ha : Ev w A env σ o a (.bool x)) (hb : x = false → Ev w A env σ o b (.bool y)) : Ev w A env σ o (.BoolOp .Or [a, b] p) (.bool (x || y)) := by
  refine ⟨fun g s f => ?_⟩
  show wpAny _ A (do
    let v ← eval a env
    standAt p
    let t ← holding [v] (truthy v)
    match BoolOp.Or, t with
    | .And, false | .Or, true => pure v
    | _, _ => eval b env) _ _ s
  refine wpAny_bind (wpF (ha.out g s f) fun v s₁ q₁ => wpAny_bind (wpAny_standAt ?_))
  obtain ⟨k, rfl⟩ := q₁
  refine wpAny_bind (wpAny_holding (wpAny_truthy_bool ?_))
  cases x with
  | true => exact wpAny_pure ⟨k, rfl⟩
  | false => exact wpF ((hb rfl).out g s₁ (f.mono (kHeap k))) fun v s₂ q₂ => ⟨kTrans k q₂.1, q₂.2⟩
end
end Mine
end
section
open PySem PySem.W PyProof.Rows
set_option Elab.async false
set_option maxRecDepth 100000
set_option linter.unusedVariables false
namespace Mine
section
variable {w : World} {A : Around} {env : Env} {σ σ' : St} {o : Own} {P : Post}

/-- a list of expressions -/
noncomputable def Evs (w : World) (A : Around) (env : Env) (σ : St) (o : Own) : List Expr → List D → Prop
  | [], [] => True
  | e :: es, d :: ds => starEach [e] env = [(false, eval e env)] ∧ Ev w A env σ o e d ∧ Evs w A env σ o es ds
  | _, _ => False
theorem evs_nil : Evs w A env σ o [] [] := trivial
theorem evs_cons {e : Expr} {es : List Expr} {d : D} {ds : List D} (h : Ev w A env σ o e d) (hs : Evs w A env σ o es ds) (he : starEach [e] env = [(false, eval e env)]) : Evs w A env σ o (e :: es) (d :: ds) := ⟨he, h, hs⟩
theorem star_cons {e : Expr} {es : List Expr} (he : starEach [e] env = [(false, eval e env)]) : starEach (e :: es) env = (false, eval e env) :: starEach es env := by
  cases e with
  | Starred x p =>
    have : [(true, eval x env)] = [(false, eval (.Starred x p) env)] := he
    injection this with h1 _
    injection h1 with h2 _
    cases h2
  | _ => rfl
theorem Rd.bd {w : World} {env : Env} {σ : St} {o : Own} {g h : Heap} (f : Fm w env σ o g h) : ∀ a, Mine.bad env o a → ∃ ob, h.get? a = some ob := fun a b => f.badIn b
theorem spl {pos : Pos} : ∀ {es : List Expr} {ds : List D}, Evs w A env σ o es ds → ∀ g s, Fm w env σ o g s.heap →
    wpAny (model prg w) A (spliced (backTo pos (starEach es env))) (fun vs s' => Keeps s s' ∧ RdL (Mine.bad env o) s'.heap vs ds) (fun _ _ => False) s
  | [], [], _, g, s, f => Calls.spliced_nil ⟨kRefl s, trivial⟩
  | e :: es, d :: ds, h, g, s, f => by
    rw [star_cons h.1]
    refine Calls.spliced_cons (wpF (h.2.1.out g s f) fun v s₁ q₁ => ?_)
    refine wpF (spl (pos := pos) h.2.2 g s₁ (f.mono (kHeap q₁.1))) fun vs s₂ q₂ => ?_
    exact ⟨kTrans q₁.1 q₂.1, q₁.2.mono (kHeap q₂.1), q₂.2⟩
  | [], _ :: _, h, _, _, _ => h.elim
  | _ :: _, [], h, _, _, _ => h.elim

/-- a call gives r -/
structure Cal (w : World) (A : Around) (f : Value) (ds : List D) (r : D) : Prop where
  out : ∀ (bd : Addr → Prop) (s : Shared) (vs : List Value), Gd w s.heap → (∀ a, bd a → ∃ ob, s.heap.get? a = some ob) → RdL bd s.heap vs ds →
    wpAny (model prg w) A (call f vs) (fun v s' => Keeps s s' ∧ Rd bd s'.heap v r) (fun _ _ => False) s

theorem callWith_B {pos : Pos} {id : String} {first : List Value} {e : Expr} {es : List Expr} {d : D} {ds : List D} {r : D} {g : Heap} {s : Shared} (f : Fm w env σ o g s.heap) (hs : Evs w A env σ o (e :: es) (d :: ds))
    {Q : Value → Shared → Prop} {E : Value → Shared → Prop}
    (h : ∀ vs s', Keeps s s' → RdL (Mine.bad env o) s'.heap vs (d :: ds) → wpAny (model prg w) A (call (.builtin id) (first ++ vs)) Q E s') :
    wpAny (model prg w) A (callWith pos (.builtin id) first (backTo pos (starEach (e :: es) env)) []) Q E s := by
  have q := spl (pos := pos) hs g s f
  have e1 : backTo pos (starEach (e :: es) env) = (false, eval e env) :: backTo pos (starEach es env) := by rw [star_cons hs.1]; rfl
  have hp : (backTo pos (starEach (e :: es) env)).any (·.1) = false := by
    have : ∀ {es : List Expr} {ds : List D}, Evs w A env σ o es ds → (backTo pos (starEach es env)).any (·.1) = false := by
      intro es
      induction es with
      | nil => intro ds _; rfl
      | cons e es ih =>
        intro ds h
        cases ds with
        | nil => exact h.elim
        | cons d ds => rw [star_cons h.1]; exact ih h.2.2
    exact this hs
  refine Calls.callWith_builtin hp ?_
  rw [e1] at q ⊢
  exact Calls.evalArgs_plain (wpF q fun vs s' q' => h vs s' q'.1 q'.2)

theorem ev_callB {x : Str} {p pos : Pos} {id : String} {e : Expr} {es : List Expr} {d : D} {ds : List D} {r : D} (hv : GV w x (.builtin id)) (hk : env.kindOf x = some .globalImplicit)
    (hs : Evs w A env σ o (e :: es) (d :: ds)) (hc : Cal w A (.builtin id) (d :: ds) r) : Ev w A env σ o (.Call (.Name x p) (e :: es) [] pos) r := by
  refine ⟨fun g s f => ?_⟩
  refine wpAny_Call_Name_kw (Calls.Name_function_global f.fn hk (hv.2 A env s _ _ f.gl f.bl f.gh ?_) hv.1)
  refine callWith_B (pos := pos) (r := r) f hs fun vs s' k q => ?_
  exact wpF (hc.out _ s' vs (f.gh.mono (kHeap k)) (fun a b => (f.mono (kHeap k)).badIn b) q) fun v s₂ q₂ => ⟨kTrans k q₂.1, q₂.2⟩
theorem ev_callT {x : Str} {p pos : Pos} {T : String} {e : Expr} {es : List Expr} {d : D} {ds : List D} {r : D} (hv : GV w x (.type T)) (hk : env.kindOf x = some .globalImplicit)
    (hs : Evs w A env σ o (e :: es) (d :: ds)) (hc : Cal w A (.type T) (d :: ds) r) : Ev w A env σ o (.Call (.Name x p) (e :: es) [] pos) r := by
  refine ⟨fun g s f => ?_⟩
  refine wpAny_Call_Name_kw (Calls.Name_function_global f.fn hk (hv.2 A env s _ _ f.gl f.bl f.gh ?_) hv.1)
  have q := spl (pos := pos) hs g s f
  have e1 : backTo pos (starEach (e :: es) env) = (false, eval e env) :: backTo pos (starEach es env) := by rw [star_cons hs.1]; rfl
  have hp : (backTo pos (starEach (e :: es) env)).any (·.1) = false := by
    have : ∀ {es : List Expr} {ds : List D}, Evs w A env σ o es ds → (backTo pos (starEach es env)).any (·.1) = false := by
      intro es
      induction es with
      | nil => intro ds _; rfl
      | cons e es ih =>
        intro ds h
        cases ds with
        | nil => exact h.elim
        | cons d ds => rw [star_cons h.1]; exact ih h.2.2
    exact this hs
  refine PyProof.Rows.callWith_type hp ?_
  rw [e1] at q ⊢
  refine Calls.evalArgs_plain (wpF q fun vs s' q' => ?_)
  exact wpF (hc.out _ s' vs (f.gh.mono (kHeap q'.1)) (fun a b => (f.mono (kHeap q'.1)).badIn b) q'.2) fun v s₂ q₂ => ⟨kTrans q'.1 q₂.1, q₂.2⟩
/-- a call of a def of the text -/
theorem ev_callF {x : Str} {p pos : Pos} {a : Addr} {ob : Obj} {fd : FuncData} {e : Expr} {es : List Expr} {d : D} {ds : List D} {r : D} (hv : GV w x (.ref a)) (hk : env.kindOf x = some .globalImplicit)
    (ho : (KK w).lookup a = some ob) (hd : ob.data = .func fd) (hs : Evs w A env σ o (e :: es) (d :: ds)) (hc : Cal w A (.ref a) (d :: ds) r) : Ev w A env σ o (.Call (.Name x p) (e :: es) [] pos) r := by
  refine ⟨fun g s f => ?_⟩
  refine wpAny_Call_Name_kw (Calls.Name_function_global f.fn hk (hv.2 A env s _ _ f.gl f.bl f.gh ?_) hv.1)
  have q := spl (pos := pos) hs g s f
  have e1 : backTo pos (starEach (e :: es) env) = (false, eval e env) :: backTo pos (starEach es env) := by rw [star_cons hs.1]; rfl
  refine Calls.callWith_function (o := ob) (fd := fd) ?_
  rw [e1] at q ⊢
  refine Calls.evalArgs_plain (wpF q fun vs s' q' => ⟨⟨(f.gh.mono (kHeap q'.1)).k _ _ ho, hd⟩, ?_⟩)
  exact wpF (hc.out _ s' vs (f.gh.mono (kHeap q'.1)) (fun a b => (f.mono (kHeap q'.1)).badIn b) q'.2) fun v s₂ q₂ => ⟨kTrans q'.1 q₂.1, q₂.2⟩

/-- a list that is written -/
theorem fresh_not {h : Heap} {bd : Addr → Prop} (hb : ∀ a, bd a → ∃ ob, h.get? a = some ob) : ¬ bd h.objs.size := fun q => by
  obtain ⟨ob, e⟩ := hb _ q
  exact absurd (Heap.lt_size e) (Nat.lt_irrefl _)
theorem RdL.imL {bd : Addr → Prop} {h : Heap} : ∀ {vs : List Value} {ds : List D}, (ds.all isIm) = true → RdL bd h vs ds → ImL vs ds
  | [], [], _, _ => trivial
  | _ :: _, _ :: _, hi, r => by
    rw [List.all_cons, Bool.and_eq_true] at hi
    exact ⟨r.1.im hi.1, RdL.imL hi.2 r.2⟩
  | [], _ :: _, _, r => r.elim
  | _ :: _, [], _, r => r.elim
theorem newList_F {vs : List Value} {ds : List D} {bd : Addr → Prop} {s : Shared} {E : Value → Shared → Prop} (hb : ∀ a, bd a → ∃ ob, s.heap.get? a = some ob) (hi : ImL vs ds) (hz : vs.length ≤ sizeLine) :
    wpAny (model prg w) A (newList vs) (fun v s' => Keeps s s' ∧ Rd bd s'.heap v (.list ds)) E s := by
  refine wpAny_newObj_type ?_ (by show vs.toArray.size ≤ sizeLine; rw [List.size_toArray]; exact hz)
  refine ⟨kMk (t := s.toks) fun b ob e => Heap.get?_push_of_some _ e, _, vs, rfl, fresh_not hb, ⟨_, Heap.get?_push_size _ rfl⟩, hi⟩
theorem ev_list {es : List Expr} {ds : List D} {pos : Pos} (hs : Evs w A env σ o es ds) (hi : ds.all isIm = true) (hz : ds.length ≤ 1000) : Ev w A env σ o (.List es pos) (.list ds) := by
  refine ⟨fun g s f => ?_⟩
  refine List_ (wpF (spl hs g s f) fun vs s₁ q₁ => ?_)
  have f1 := f.mono (kHeap q₁.1)
  have il := RdL.imL hi q₁.2
  exact wpAny_mono (newList_F (ds := ds) (fun a b => f1.badIn b) il (by rw [il.length, sizeLine_eq]; omega)) (fun v s₂ q₂ => ⟨kTrans q₁.1 q₂.1, q₂.2⟩) fun _ _ x => x

/-- an item -/
structure Itm (w : World) (A : Around) (a i r : D) : Prop where
  out : ∀ (bd : Addr → Prop) (s : Shared) (va vi : Value), Rd bd s.heap va a → Im vi i →
  ∃ T id, s.TypeIs va T ∧ typeLookup (.type T) "__getitem__" = pure (some (.builtin id)) ∧ wpAny (model prg w) A (getItem va vi) (fun v s' => Keeps s s' ∧ Im v r) (fun _ _ => False) s
theorem ev_item {v ix : Expr} {pos : Pos} {a i r : D} (hv : Ev w A env σ o v a) (hi : Ev w A env σ o ix i) (h : Itm w A a i r) (ii : isIm i = true)
    (hs : ∀ x y, subscripted ix false x y = operate [x, y] (getItem x y)) : Ev w A env σ o (.Subscript v ix pos) r := by
  refine ⟨fun g s f => ?_⟩
  refine Subscript_ (wpF (hv.out g s f) fun va s₁ q₁ => wpF (hi.out g s₁ (f.mono (kHeap q₁.1))) fun vi s₂ q₂ => ?_)
  obtain ⟨T, id, hT, hl, hw⟩ := h.out (Mine.bad env o) s₂ va vi (q₁.2.mono (kHeap q₂.1)) (q₂.2.im ii)
  exact tail_any hT hl (wpF hw fun v s₃ q₃ => ⟨kTrans q₁.1 (kTrans q₂.1 q₃.1), Rd.ofIm q₃.2⟩) (hs va vi)
theorem i_str {x : Str} {i : Int} (h0 : 0 ≤ i) (h1 : i < x.length) (h2 : x.length ≤ 16777216) : Itm w A (.str x) (.int i) (.str (Txt.item x i)) := by
  constructor; rintro bd s _ _ ⟨t, rfl⟩ ⟨u, rfl⟩
  have hr : fitsSsize i = true := fitsSsize_of (N := 9223372036854775808) (by omega) (by omega) (Int.le_refl _)
  obtain ⟨T, id, hl, hT, hg⟩ := SB.item (prog := prg) (w := w) (A := A) (E := fun _ _ => False) (s := s) (x := x) (t := t) (i := i) (u := u) (Q := fun v s' => Keeps s s' ∧ Im v (.str (Txt.item x i))) hr (charAt_isSome (by omega) h1) ⟨kToks, _, rfl⟩
  exact ⟨T, id, hT, hl, hg⟩
theorem i_byt {b : Array UInt8} {i : Int} (h0 : 0 ≤ i) (h1 : i < b.size) (h2 : b.size ≤ 16777216) : Itm w A (.byt b) (.int i) (.int ((b.toList.getD i.toNat 0).toNat : Int)) := by
  constructor; rintro bd s _ _ ⟨t, rfl⟩ ⟨u, rfl⟩
  refine ⟨"bytes", _, typeIs_bytes _ _ _, FB.slot_bytes_getitem.lookup, ?_⟩
  obtain ⟨l⟩ := b
  exact getItem_bytes (l := l) (by have : l.length ≤ 16777216 := h2; omega) h0 h1 ⟨kToks, _, rfl⟩
theorem i_list {ds : List D} {i : Int} {r : D} (h0 : 0 ≤ i) (h1 : i < 2 ^ 63) (hr : ds[i.toNat]? = some r) : Itm w A (.list ds) (.int i) r := by
  constructor; rintro bd s va vi ⟨a, vs, rfl, nb, hl, hi⟩ ⟨u, rfl⟩
  obtain ⟨v, hv, iv⟩ := hi.get hr
  exact ⟨"list", _, hl.isList.typeIs, slot_list_getitem.lookup, wpAny_getItem_list hl.isList h0 h1 (by simpa using hv) ⟨kRefl s, iv⟩⟩
end
end Mine
end
section
open PySem PySem.W PyProof.Rows
set_option Elab.async false
set_option maxRecDepth 100000
set_option linter.unusedVariables false
namespace Mine
section
variable {w : World} {A : Around} {env : Env} {σ σ' : St} {o : Own} {P : Post}

/-- what stays of σ when x is stored -/
inductive Kp (x : Str) : St → St → Prop where
  | nil : Kp x [] []
  | same {d : D} {a b : St} : Kp x a b → Kp x ((x, d) :: a) b
  | keep {y : Str} {d : D} {a b : St} : y ≠ x → Kp x a b → Kp x ((y, d) :: a) ((y, d) :: b)
  | drop {y : Str} {d : D} {a b : St} : Kp x a b → Kp x ((y, d) :: a) b
theorem Kp.mem {x : Str} {a b : St} (k : Kp x a b) : ∀ p ∈ b, p ∈ a ∧ p.1 ≠ x := by
  induction k with
  | nil => intro p hp; cases hp
  | same _ ih => intro p hp; exact ⟨.tail _ (ih p hp).1, (ih p hp).2⟩
  | keep hn _ ih =>
    intro p hp
    rcases List.mem_cons.mp hp with rfl | hp
    · exact ⟨.head _, hn⟩
    · exact ⟨.tail _ (ih p hp).1, (ih p hp).2⟩
  | drop _ ih => intro p hp; exact ⟨.tail _ (ih p hp).1, (ih p hp).2⟩
noncomputable def Kq (x : Str) (a b : St) : Prop := ∀ p ∈ b, p ∈ a ∧ p.1 ≠ x
theorem Kp.q {x : Str} {a b : St} (k : Kp x a b) : Kq x a b := k.mem
theorem ofString_ne {a b : String} (h : a ≠ b) : Str.ofString a ≠ Str.ofString b := by
  intro e
  apply h
  have : (Str.ofString a).cps.toList = (Str.ofString b).cps.toList := by rw [e]
  simp only [Str.ofString, List.toList_toArray] at this
  rw [cpsOfBytes_string, cpsOfBytes_string] at this
  have inj : ∀ {l l' : List Char}, l.map Char.toNat = l'.map Char.toNat → l = l' := by
    intro l
    induction l with
    | nil => intro l' e; cases l' with
      | nil => rfl
      | cons => cases e
    | cons c l ih => intro l' e; cases l' with
      | nil => cases e
      | cons c' l' =>
        injection e with e1 e2
        rw [ih e2]
        have : c = c' := Char.ext (UInt32.toNat_inj.mp e1)
        rw [this]
  exact String.ext (inj this)

theorem kp_same {x : Str} {d : D} {a b : St} (h : Kp x a b) : Kp x ((x, d) :: a) b := .same h
theorem kp_keep {x y : String} {d : D} {a b : St} (hn : y ≠ x) (h : Kp (Str.ofString x) a b) : Kp (Str.ofString x) ((Str.ofString y, d) :: a) ((Str.ofString y, d) :: b) := .keep (ofString_ne hn) h
theorem kp_drop {x y : Str} {d : D} {a b : St} (h : Kp x a b) : Kp x ((y, d) :: a) b := .drop h
noncomputable def OwnNot (o : Own) (x : Str) : Prop := ∀ y a ds, o = some (y, a, ds) → y ≠ x
theorem own_none {x : Str} : OwnNot none x := fun _ _ _ e => nomatch e
theorem own_some {x y : Str} {a : Addr} {ds : List D} (h : y ≠ x) : OwnNot (some (y, a, ds)) x := by rintro _ _ _ ⟨⟩; exact h

theorem Fm.nsEq {g h : Heap} {m m' : Str → Option Value} (hn0 : h.Ns env.locals m) (hm' : h.Ns env.locals m') : m' = m := by
  obtain ⟨ob, es, ep, e1, e2, _, e3⟩ := hm'
  obtain ⟨ob', es', ep', e1', e2', _, e3'⟩ := hn0
  rw [e1] at e1'
  cases e1'
  rw [e2] at e2'
  cases e2'
  funext y
  rw [← e3, ← e3']
theorem lookup_mem {x : Str} {c : Addr} : ∀ {l : List (Str × Addr)}, l.lookup x = some c → (x, c) ∈ l
  | [], e => by cases e
  | (n, c') :: r, e => by
    rw [List.lookup_cons] at e
    cases hb : (x == n) with
    | true =>
      rw [hb] at e; cases e
      have : x = n := by simpa using hb
      rw [this]; exact .head _
    | false => rw [hb] at e; exact .tail _ (lookup_mem e)
/-- a local is stored -/
theorem Fm.store {x : Str} {v : Value} {d : D} {g h h' : Heap} {m : Str → Option Value} (f : Fm w env σ o g h) (hn0 : h.Ns env.locals m) (hn : h'.Ns env.locals (fun y => if y = x then some v else m y)) (hs : Heap.SameBut env.locals h h')
    (hr : Rd (Mine.bad env o) h v d) (hk : env.kindOf x = some .local) (hd : dbg x) (kp : Kq x σ σ') (ho : OwnNot o x) : Fm w env ((x, d) :: σ') o g h' := by
  have nl : ∀ b ob, g.get? b = some ob → b ≠ env.locals := fun b ob e q => by
    have := f.fr env.locals (.head _)
    rw [← q, e] at this; cases this
  have rd : ∀ {v : Value} {d : D}, Rd (Mine.bad env o) h v d → Rd (Mine.bad env o) h' v d := by
    intro v d r
    cases d with
    | list ds =>
      obtain ⟨a, vs, e, nb, hl, hi⟩ := r
      refine ⟨a, vs, e, nb, hl.at fun ob e => (hs.2 a fun q => nb (.inl (by rw [q]; exact .head _))).trans e, hi⟩
    | _ => exact r
  have meq : ∀ m', h.Ns env.locals m' → m' = m := fun m' hm' => Fm.nsEq (g := g) hn0 hm'
  refine ⟨f.gd, fun b ob e => (hs.2 b (nl b ob e)).trans (f.keep b ob e), f.fr, f.fn, f.gl, f.bl, fun p hp => ?_, ⟨_, hn, fun p hp => ?_, fun y a ds e => ?_⟩⟩
  · obtain ⟨h1, ob, e, cc⟩ := f.cl p hp
    exact ⟨h1, ob, (hs.2 _ h1).trans e, cc⟩
  · rcases List.mem_cons.mp hp with rfl | hp
    · exact ⟨v, ⟨hd, .inl ⟨hk, by simp⟩⟩, rd hr⟩
    · obtain ⟨hp, hne⟩ := kp p hp
      obtain ⟨m', hm', hs', _⟩ := f.ns
      cases meq m' hm'
      obtain ⟨u, ⟨h1, h2⟩, h3⟩ := hs' p hp
      refine ⟨u, ⟨h1, h2.imp (fun q => ⟨q.1, by simp only [if_neg hne]; exact q.2⟩) ?_⟩, rd h3⟩
      rintro ⟨c, ob, e1, e2, e3, e4, e5⟩
      have hc : c ≠ env.locals := (f.cl _ (lookup_mem e3)).1
      exact ⟨c, ob, e1, e2, e3, (hs.2 c hc).trans e4, e5⟩
  · obtain ⟨m', hm', _, ho'⟩ := f.ns
    cases meq m' hm'
    obtain ⟨h1, h2, h3, h3', h4, vs, h5, h6⟩ := ho' y a ds e
    have : y ≠ x := ho y a ds e
    refine ⟨h1, h2, h3, h3', by simp only [if_neg this]; exact h4, vs, ?_, h6⟩
    exact h5.at fun ob e => (hs.2 a fun q => h2 (by rw [q]; exact .head _)).trans e
theorem notClass {g h : Heap} (f : Fm w env σ o g h) : (env.scope.kind == .class || (env.scope.kind == .module && env.locals != env.globals)) = false := by rw [f.fn]; rfl

theorem stName {x : Str} {v : Value} {d : D} {g : Heap} {s : Shared} (f : Fm w env σ o g s.heap) (hr : Rd (Mine.bad env o) s.heap v d) (hk : env.kindOf x = some .local) (hd : dbg x) (kp : Kq x σ σ') (ho : OwnNot o x)
    {Q : Unit → Shared → Prop} {E : Value → Shared → Prop} (h : ∀ h' tk, Heap.SameBut env.locals s.heap h' → Fm w env ((x, d) :: σ') o g h' → Q () { s with heap := h', toks := tk }) : wpAny (model prg w) A (storeName env x v) Q E s := by
  obtain ⟨m, hn, _⟩ := f.ns
  exact wpAny_storeName_local hk hn (fun h' hn' hs' => h h' _ hs' (f.store hn hn' hs' hr hk hd kp ho)) (notClass f)

theorem ex_assign {x : Str} {p pos : Pos} {e : Expr} {d : D} (he : Ev w A env σ o e d) (kp : Kq x σ σ') (hk : env.kindOf x = some .local) (hd : dbg x) (ho : OwnNot o x)
    (hsw : swapsWith e (some (.Name x p)) pos.line env = pure false) (h : P .next ((x, d) :: σ') o) : Ex1 w A env σ o (.Assign [.Name x p] e pos) P := by
  refine ⟨fun g s f => ?_⟩
  refine wpAny_Assign_Name (wpF (he.out g s f) fun v s₁ q₁ => ?_) hsw
  refine stName (f.mono (kHeap q₁.1)) q₁.2 hk hd kp ho fun h' tk _ f' => ?_
  obtain ⟨h1, t1, rfl, _⟩ := q₁.1
  exact ⟨.next, _, _, h, ⟨h', tk, rfl⟩, f', rfl⟩

/-- a new list of the frame's own is stored -/
theorem Fm.storeOwn {x : Str} {vs : List Value} {ds : List D} {g h h' : Heap} {m : Str → Option Value} {n : Nat} (f : Fm w env σ none g h)
    (hn0 : (h.push { cls := .type "list", data := .seq vs.toArray n }).Ns env.locals m) (hn : h'.Ns env.locals (fun y => if y = x then some (.ref h.objs.size) else m y)) (hs : Heap.SameBut env.locals (h.push { cls := .type "list", data := .seq vs.toArray n }) h')
    (il : ImL vs ds) (hk : env.kindOf x = some .local) (hd : dbg x) (kp : Kq x σ σ') : Fm w env σ' (some (x, h.objs.size, ds)) g h' := by
  have kk : ∀ b ob, h.get? b = some ob → (h.push { cls := .type "list", data := .seq vs.toArray n }).get? b = some ob := fun b ob e => Heap.get?_push_of_some _ e
  have nl : ∀ b ob, g.get? b = some ob → b ≠ env.locals := fun b ob e q => by
    have := f.fr env.locals (.head _)
    rw [← q, e] at this; cases this
  have nb : ¬ Mine.bad env none h.objs.size := fresh_not fun a b => f.badIn b
  have nL : h.objs.size ≠ env.locals := fun q => nb (.inl (by rw [q]; exact .head _))
  have up : ∀ b ob, b ≠ env.locals → h.get? b = some ob → h'.get? b = some ob := fun b ob hb e => (hs.2 b hb).trans (kk b ob e)
  obtain ⟨m', hm', hs', _⟩ := f.ns
  have hmm : m' = m := Fm.nsEq (g := g) hn0 (hm'.keeps kk)
  subst hmm
  refine ⟨f.gd, fun b ob e => up b ob (nl b ob e) (f.keep b ob e), f.fr, f.fn, f.gl, f.bl, fun p hp => ?_, ⟨_, hn, fun p hp => ?_, fun y a ds' e => ?_⟩⟩
  · obtain ⟨h1, ob, e, cc⟩ := f.cl p hp
    exact ⟨h1, ob, up _ _ h1 e, cc⟩
  · obtain ⟨hp, hne⟩ := kp p hp
    obtain ⟨u, ⟨h1, h2⟩, h3⟩ := hs' p hp
    refine ⟨u, ⟨h1, h2.imp (fun q => ⟨q.1, by simp only [if_neg hne]; exact q.2⟩) ?_⟩, ?_⟩
    · rintro ⟨c, ob, e1, e2, e3, e4, e5⟩
      exact ⟨c, ob, e1, e2, e3, up _ _ (f.cl _ (lookup_mem e3)).1 e4, e5⟩
    · generalize p.2 = d at h3
      cases d with
      | list ds₁ =>
        obtain ⟨a, vs₁, e, nb₁, hl, hi⟩ := h3
        obtain ⟨_, hob⟩ := id hl
        refine ⟨a, vs₁, e, ?_, hl.at fun ob e => up a ob (fun q => nb₁ (.inl (by rw [q]; exact .head _))) e, hi⟩
        rintro (q | ⟨_, _, q⟩)
        · exact nb₁ (.inl q)
        · cases q
          exact absurd (Heap.lt_size hob) (Nat.lt_irrefl _)
      | _ => exact h3
  · cases e
    refine ⟨?_, fun q => nb (.inl q), hk, hd, by simp, vs, ⟨n, (hs.2 _ nL).trans (Heap.get?_push_size _ rfl)⟩, il⟩
    cases q : g.get? h.objs.size with
    | none => rfl
    | some ob => exact absurd (Heap.lt_size (f.keep _ _ q)) (Nat.lt_irrefl _)

/-- x = [..]: a list of the frame's own -/
theorem ex_new {x : Str} {p p' pos : Pos} {es : List Expr} {ds : List D} (hs : Evs w A env σ none es ds) (kp : Kq x σ σ') (hk : env.kindOf x = some .local) (hd : dbg x)
    (hi : ds.all isIm = true) (hz : ds.length ≤ 1000)
    (hsw : swapsWith (.List es p') (some (.Name x p)) pos.line env = pure false) (h : ∀ a, P .next σ' (some (x, a, ds))) : Ex1 w A env σ none (.Assign [.Name x p] (.List es p') pos) P := by
  refine ⟨fun g s f => ?_⟩
  refine wpAny_Assign_Name (List_ (wpF (spl hs g s f) fun vs s₁ q₁ => ?_)) hsw
  have f1 := f.mono (kHeap q₁.1)
  have il := RdL.imL hi q₁.2
  refine wpAny_newObj_type ?_ (by show vs.toArray.size ≤ sizeLine; rw [List.size_toArray, il.length, sizeLine_eq]; omega)
  obtain ⟨m, hn, _⟩ := f1.ns
  have hn2 := hn.keeps (h' := s₁.heap.push { cls := .type "list", data := .seq vs.toArray }) fun b ob e => Heap.get?_push_of_some _ e
  refine wpAny_storeName_local hk hn2 (fun h' hn' hs' => ?_) (notClass f)
  have f2 := f1.storeOwn (n := 0) hn2 hn' hs' il hk hd kp
  obtain ⟨h1, t1, rfl, _⟩ := q₁.1
  exact ⟨.next, _, _, h h1.objs.size, ⟨h', _, rfl⟩, f2, rfl⟩

/-- σ may be forgotten in part -/
noncomputable def Sb (a b : St) : Prop := ∀ p ∈ a, p ∈ b
theorem sb_nil {a : St} : Sb [] a := fun _ h => nomatch h
theorem sb_cons {p : Str × D} {a b : St} (h : p ∈ b) (k : Sb a b) : Sb (p :: a) b := fun q hq => by
  rcases List.mem_cons.mp hq with rfl | hq
  · exact h
  · exact k q hq
theorem Fm.forget {g h : Heap} (f : Fm w env σ o g h) (k : Sb σ' σ) : Fm w env σ' o g h :=
  ⟨f.gd, f.keep, f.fr, f.fn, f.gl, f.bl, f.cl, let ⟨m, hn, hs, ho⟩ := f.ns; ⟨m, hn, fun p hp => hs p (k p hp), ho⟩⟩
theorem ex_forget {ss : List Stmt} (k : Sb σ' σ) (h : Ex w A env σ' o ss P) : Ex w A env σ o ss P := ⟨fun g s f => h.out g s (f.forget k)⟩
theorem ex_mono {ss : List Stmt} {P' : Post} (h : Ex w A env σ o ss P) (k : ∀ fl σ o, P fl σ o → P' fl σ o) : Ex w A env σ o ss P' := ⟨fun g s f =>
  wpAny_mono (h.out g s f) (fun f s' q => let ⟨fl, σ, o, hp, r⟩ := q; ⟨fl, σ, o, k _ _ _ hp, r⟩) fun _ _ x => x⟩
theorem ex1_mono {st : Stmt} {P' : Post} (h : Ex1 w A env σ o st P) (k : ∀ fl σ o, P fl σ o → P' fl σ o) : Ex1 w A env σ o st P' := ⟨fun g s f =>
  wpAny_mono (h.out g s f) (fun f s' q => let ⟨fl, σ, o, hp, r⟩ := q; ⟨fl, σ, o, k _ _ _ hp, r⟩) fun _ _ x => x⟩
/-- the own list is frozen -/
theorem Fm.freeze {x : Str} {a : Addr} {ds : List D} {g h : Heap} (f : Fm w env σ (some (x, a, ds)) g h) : Fm w env ((x, .list ds) :: σ) none g h := by
  obtain ⟨m, hn, hs, ho⟩ := f.ns
  obtain ⟨h1, h2, h3, h3', h4, vs, h5, h6⟩ := ho x a ds rfl
  refine ⟨f.gd, f.keep, f.fr, f.fn, f.gl, f.bl, f.cl, m, hn, fun p hp => ?_, fun _ _ _ e => nomatch e⟩
  rcases List.mem_cons.mp hp with rfl | hp
  · refine ⟨.ref a, ⟨h3', .inl ⟨h3, h4⟩⟩, a, vs, rfl, ?_, h5, h6⟩
    rintro (q | ⟨_, _, q⟩)
    · exact h2 q
    · cases q
  · obtain ⟨v, hv, hr⟩ := hs p hp
    exact ⟨v, hv, hr.weak fun a q => q.elim .inl fun ⟨_, _, q⟩ => nomatch q⟩
theorem ex_freeze {x : Str} {a : Addr} {ds : List D} {ss : List Stmt} (h : Ex w A env ((x, .list ds) :: σ) none ss P) : Ex w A env σ (some (x, a, ds)) ss P := ⟨fun g s f => h.out g s f.freeze⟩
theorem ex1_freeze {x : Str} {a : Addr} {ds : List D} {st : Stmt} (h : Ex1 w A env ((x, .list ds) :: σ) none st P) : Ex1 w A env σ (some (x, a, ds)) st P := ⟨fun g s f => h.out g s f.freeze⟩

theorem ex_ret {e : Expr} {p : Pos} {d : D} (he : Ev w A env σ o e d) (h : P (.ret d) σ o) : Ex1 w A env σ o (.Return (some e) p) P := ⟨fun g s f =>
  wpAny_Return_some (wpF (he.out g s f) fun v s₁ q₁ => ⟨.ret d, σ, o, h, kSh q₁.1, f.mono (kHeap q₁.1), v, rfl, q₁.2⟩)⟩
/-- return of the own list -/
theorem ex_retOwn {x : Str} {a : Addr} {ds : List D} {p p' : Pos} (h : P .rown σ (some (x, a, ds))) : Ex1 w A env σ (some (x, a, ds)) (.Return (some (.Name x p')) p) P := by
  refine ⟨fun g s f => ?_⟩
  obtain ⟨m, hn, hs, ho⟩ := f.ns
  obtain ⟨h1, h2, h3, h3', h4, _⟩ := ho x a ds rfl
  exact wpAny_Return_some (wpAny_Name (wpAny_loadName_local f.fn h3 hn h4 ⟨.rown, σ, _, h, ⟨s.heap, s.toks, rfl⟩, f, x, a, ds, rfl, rfl⟩) h3')
theorem ex_if {c : Expr} {a b : List Stmt} {p : Pos} {t : Bool} (hc : Ts w A env σ o c t) (ha : t = true → Ex w A env σ o a P) (hb : t = false → Ex w A env σ o b P) : Ex1 w A env σ o (.If c a b p) P := by
  refine ⟨fun g s f => ?_⟩
  refine wpAny_If (wpF (hc.out g s f) fun v s₁ q₁ => ?_)
  obtain ⟨k, rfl⟩ := q₁
  have f1 := f.mono (kHeap k)
  cases v with
  | true => exact wpAny_mono ((ha rfl).out g s₁ f1) (fun _ _ q => q.trans (kSh k)) fun _ _ x => x.elim
  | false => exact wpAny_mono ((hb rfl).out g s₁ f1) (fun _ _ q => q.trans (kSh k)) fun _ _ x => x.elim
theorem ex_cont {p : Pos} (h : P .cont σ o) : Ex1 w A env σ o (.Continue p) P := ⟨fun g s f => fun _ _ _ => ⟨.cont, σ, o, h, ⟨s.heap, s.toks, rfl⟩, f, rfl⟩⟩
theorem ex_brk {p : Pos} (h : P .brk σ o) : Ex1 w A env σ o (.Break p) P := ⟨fun g s f => fun _ _ _ => ⟨.brk, σ, o, h, ⟨s.heap, s.toks, rfl⟩, f, rfl⟩⟩

/-- the own list's item is turned at its place: all else stands -/
theorem Fm.turn {x : Str} {a : Addr} {ds ds' : List D} {vs' : List Value} {g h h' : Heap} (f : Fm w env σ (some (x, a, ds)) g h) (hs : Heap.SameBut a h h') (hl : h'.PlainList a vs'.toArray) (il : ImL vs' ds') : Fm w env σ (some (x, a, ds')) g h' := by
  obtain ⟨m, hn, hs', ho⟩ := f.ns
  obtain ⟨h1, h2, h3, h3', h4, vs, h5, h6⟩ := ho x a ds rfl
  have ng : ∀ b ob, g.get? b = some ob → b ≠ a := fun b ob e q => by rw [q, h1] at e; cases e
  have nf : ∀ b ∈ fad env, b ≠ a := fun b hb q => h2 (q ▸ hb)
  refine ⟨f.gd, fun b ob e => (hs.2 b (ng b ob e)).trans (f.keep b ob e), f.fr, f.fn, f.gl, f.bl, fun p hp => ?_, m, hn.at fun ob e => (hs.2 _ (nf _ (.head _))).trans e, fun p hp => ?_, fun y b ds₁ e => ?_⟩
  · obtain ⟨q1, ob, e, cc⟩ := f.cl p hp
    exact ⟨q1, ob, (hs.2 _ (nf _ (.tail _ (List.mem_map_of_mem hp)))).trans e, cc⟩
  · obtain ⟨u, ⟨q1, q2⟩, q3⟩ := hs' p hp
    refine ⟨u, ⟨q1, q2.imp id ?_⟩, ?_⟩
    · rintro ⟨c, ob, e1, e2, e3, e4, e5⟩
      exact ⟨c, ob, e1, e2, e3, (hs.2 c (nf _ (.tail _ (List.mem_map_of_mem (f := (·.2)) (lookup_mem e3))))).trans e4, e5⟩
    · generalize p.2 = d at q3
      cases d with
      | list ds₁ =>
        obtain ⟨b, vs₁, e, nb₁, hl₁, hi₁⟩ := q3
        refine ⟨b, vs₁, e, ?_, hl₁.at fun ob e => (hs.2 b fun q => nb₁ (.inr ⟨x, ds, by rw [q]⟩)).trans e, hi₁⟩
        rintro (q | ⟨_, _, q⟩)
        · exact nb₁ (.inl q)
        · cases q; exact nb₁ (.inr ⟨x, ds, rfl⟩)
      | _ => exact q3
  · cases e
    exact ⟨h1, h2, h3, h3', h4, vs', hl, il⟩

theorem meth_list {name : Str} {mid : String} (slot : Slot "list" name mid) (ty : typeOf (.builtin mid) = pure (.type "method_descriptor")) {a : Addr} {its : Array Value} {s : Shared} (hl : s.heap.PlainList a its) {pos : Pos} {e : Expr} {Q : Value → Shared → Prop} {E : Value → Shared → Prop}
    (h : wpAny (model prg w) A (eval e env) (fun v s₁ => wpAny (model prg w) A (call (.builtin mid) [.ref a, v]) Q E s₁) E s) : MethodOnS prg w A E name (.ref a) pos [(false, eval e env)] Q s := by
  obtain ⟨n, ho⟩ := id hl
  refine ⟨"list", mid, F.plainAttrs_list, slot, ty, hl.isList.typeIs, ?_, ?_⟩
  · rintro _ ⟨⟩; exact ⟨_, ho, rfl⟩
  · exact Calls.callWith_builtin rfl (Calls.evalArgs_plain (Calls.spliced_cons (wpAny_mono h (fun v s₁ h₁ => Calls.spliced_nil h₁) fun _ _ e => e)))
theorem own_name {x : Str} {a : Addr} {ds : List D} {p : Pos} {g : Heap} {s : Shared} (f : Fm w env σ (some (x, a, ds)) g s.heap) {Q : Value → Shared → Prop} {E : Value → Shared → Prop} (h : Q (.ref a) s) : wpAny (model prg w) A (eval (.Name x p) env) Q E s := by
  obtain ⟨m, hn, hs, ho⟩ := f.ns
  obtain ⟨h1, h2, h3, h3', h4, _⟩ := ho x a ds rfl
  exact wpAny_Name (wpAny_loadName_local f.fn h3 hn h4 h) h3'
/-- x.append(e) -/
theorem ex_append {x : Str} {a : Addr} {ds : List D} {p pa pc pos : Pos} {e : Expr} {d : D} (he : Ev w A env σ (some (x, a, ds)) e d) (hi : isIm d = true) (hz : ds.length ≤ 1000000)
    (hs : starEach [e] env = [(false, eval e env)]) (hline : (pa.endLine == pc.line) = true) (h : P .next σ (some (x, a, ds ++ [d]))) : Ex1 w A env σ (some (x, a, ds)) (.Expr (.Call (.Attribute (.Name x p) (Str.ofString "append") pa) [e] [] pc) pos) P := by
  refine ⟨fun g s f => ?_⟩
  refine wpAny_Expr ?_ (by unfold interactive; rw [f.fn]; rfl) rfl
  refine Call_method1 rfl hs hline (own_name f ?_)
  obtain ⟨m, hn, _, ho⟩ := f.ns
  obtain ⟨h1, h2, h3, h3', h4, vs, h5, h6⟩ := ho x a ds rfl
  refine meth_list slot_list_append type_list_append h5 (wpF (he.out g s f) fun v s₁ q₁ => ?_)
  have f1 := f.mono (kHeap q₁.1)
  obtain ⟨m1, hn1, _, ho1⟩ := f1.ns
  obtain ⟨_, _, _, _, _, vs1, ⟨n1, e1⟩, il1⟩ := ho1 x a ds rfl
  refine append_at (hsz := by rw [List.size_toArray, il1.length, sizeLine_eq]; omega) e1 fun h' hs' ho' => ?_
  obtain ⟨h2, t2, rfl, _⟩ := q₁.1
  refine ⟨.next, σ, _, h, ⟨h', t2, rfl⟩, f1.turn (vs' := vs1 ++ [v]) hs' ⟨n1 + 1, ?_⟩ (il1.append ⟨q₁.2.im hi, trivial⟩), rfl⟩
  rw [ho']
  simp
end
end Mine
end
section
open PySem PySem.W PyProof.Rows
set_option Elab.async false
set_option maxRecDepth 100000
set_option linter.unusedVariables false
namespace Mine
section
variable {w : World} {A : Around} {env : Env} {σ σ' : St} {o : Own} {P : Post}

noncomputable def oad (o : Own) : List Addr := match o with
  | some (_, a, _) => [a]
  | none => []
theorem bad_iff {a : Addr} : bad env o a ↔ a ∈ fad env ++ oad o := by
  constructor
  · rintro (h | ⟨y, ds', e⟩)
    · exact List.mem_append_left _ h
    · subst e; exact List.mem_append_right _ (.head _)
  · intro h
    rcases List.mem_append.mp h with h | h
    · exact .inl h
    · cases o with
      | none => cases h
      | some p =>
        obtain ⟨x, b, ds⟩ := p
        have : a = b := List.mem_singleton.mp h
        subst this
        exact .inr ⟨x, ds, rfl⟩
/-- a larger base: all that the frame does not own -/
theorem Fm.rebase {g h : Heap} (f : Fm w env σ o g h) : ∃ g', Fm w env σ o g' h ∧ (∀ b ob, g.get? b = some ob → g'.get? b = some ob) ∧ (∀ b ob, h.get? b = some ob → ¬ bad env o b → g'.get? b = some ob) := by
  refine ⟨hideAll h (fad env ++ oad o), ?_, fun b ob e => ?_, fun b ob e nb => ?_⟩
  · have sub : ∀ b ob, g.get? b = some ob → (hideAll h (fad env ++ oad o)).get? b = some ob := fun b ob e => hideAll_get _ (f.keep b ob e) fun q => by
      have := f.badNot (bad_iff.mpr q)
      rw [e] at this; cases this
    refine ⟨f.gd.mono sub, fun b ob e => of_hideAll _ e, fun a ha => hideAll_none _ (bad_iff.mp (.inl ha)), f.fn, f.gl, f.bl, f.cl, ?_⟩
    obtain ⟨m, hn, hs, ho⟩ := f.ns
    exact ⟨m, hn, hs, fun x a ds e => ⟨hideAll_none _ (bad_iff.mp (.inr ⟨x, ds, e⟩)), (ho x a ds e).2⟩⟩
  · exact hideAll_get _ (f.keep b ob e) fun q => by
      have := f.badNot (bad_iff.mpr q)
      rw [e] at this; cases this
  · exact hideAll_get _ e fun q => nb (bad_iff.mpr q)
theorem Fm.back {g g' h : Heap} (f : Fm w env σ o g' h) (gd : Gd w g) (k : ∀ b ob, g.get? b = some ob → g'.get? b = some ob) : Fm w env σ o g h := by
  have nn : ∀ a, g'.get? a = none → g.get? a = none := fun a e => by
    cases q : g.get? a with
    | none => rfl
    | some ob => rw [k a ob q] at e; cases e
  refine ⟨gd, fun b ob e => f.keep b ob (k b ob e), fun a ha => nn a (f.fr a ha), f.fn, f.gl, f.bl, f.cl, ?_⟩
  obtain ⟨m, hn, hs, ho⟩ := f.ns
  exact ⟨m, hn, hs, fun x a ds e => ⟨nn a (ho x a ds e).1, (ho x a ds e).2⟩⟩
/-- all but a few objects stand -/
theorem Fm.but {g h h' : Heap} {wr : List Addr} (f : Fm w env σ o g h) (k : ∀ b ob, b ∉ wr → h.get? b = some ob → h'.get? b = some ob) (hg : ∀ b ∈ wr, g.get? b = none) (hb : ∀ b ∈ wr, ¬ bad env o b)
    (hc : ∀ b ∈ wr, ∃ ob, h.get? b = some ob ∧ ob.cls ≠ .type "list") : Fm w env σ o g h' := by
  obtain ⟨m, hn, hs, ho⟩ := f.ns
  have nf : ∀ b, b ∈ fad env → b ∉ wr := fun b hb' q => hb b q (.inl hb')
  refine ⟨f.gd, fun b ob e => k b ob (fun q => by rw [hg b q] at e; cases e) (f.keep b ob e), f.fr, f.fn, f.gl, f.bl, fun p hp => ?_, m, hn.at fun ob e => k _ ob (nf _ (.head _)) e, fun p hp => ?_, fun x a ds e => ?_⟩
  · obtain ⟨q1, ob, e, cc⟩ := f.cl p hp
    exact ⟨q1, ob, k _ _ (nf _ (.tail _ (List.mem_map_of_mem hp))) e, cc⟩
  · obtain ⟨u, ⟨q1, q2⟩, q3⟩ := hs p hp
    refine ⟨u, ⟨q1, q2.imp id ?_⟩, ?_⟩
    · rintro ⟨c, ob, e1, e2, e3, e4, e5⟩
      exact ⟨c, ob, e1, e2, e3, k _ _ (nf _ (.tail _ (List.mem_map_of_mem (f := (·.2)) (lookup_mem e3)))) e4, e5⟩
    · generalize p.2 = d at q3
      cases d with
      | list ds₁ =>
        obtain ⟨b, vs₁, e, nb₁, hl₁, hi₁⟩ := q3
        refine ⟨b, vs₁, e, nb₁, hl₁.at fun ob e => k b ob (fun q => ?_) e, hi₁⟩
        obtain ⟨ob', e', nc⟩ := hc b q
        obtain ⟨n, e''⟩ := hl₁
        rw [e'] at e''
        cases e''
        exact nc rfl
      | _ => exact q3
  · obtain ⟨h1, h2, h3, h3', h4, vs, h5, h6⟩ := ho x a ds e
    exact ⟨h1, h2, h3, h3', h4, vs, h5.at fun ob e' => k a ob (fun q => hb a q (.inr ⟨x, ds, e⟩)) e', h6⟩

structure Wk (w : World) (A : Around) (I : Addr) (ds : List D) (fp wr : List Addr) (PV : Nat → Value → Prop) (S : Nat → Heap → Prop) : Prop where
  walk : Walks prg w A I fp wr ds.length PV S
  im : ∀ i v, i < ds.length → PV i v → ∃ d, ds[i]? = some d ∧ Im v d
  cls : ∀ i h, S i h → ∀ b ∈ wr, ∃ ob, h.get? b = some ob ∧ ob.cls ≠ .type "list"
  exs : ∀ i h, S i h → ∀ b ∈ fp, ∃ ob, h.get? b = some ob
/-- an iterable gives ds -/
structure Itr (w : World) (A : Around) (env : Env) (σ : St) (o : Own) (e : Expr) (ds : List D) : Prop where
  out : ∀ g s, Fm w env σ o g s.heap → wpAny (model prg w) A (eval e env) (fun x s₁ => wpAny (model prg w) A (pyIter x) (fun it s₂ => Keeps s s₂ ∧ ∃ I fp wr PV S, it = .ref I ∧ Wk w A I ds fp wr PV S ∧ S 0 s₂.heap ∧
    (∀ b ∈ wr, s.heap.get? b = none) ∧ (∀ b ∈ fp, ¬ bad env o b)) (fun _ _ => False) s₁) (fun _ _ => False) s

noncomputable def FTurn (w : World) (A : Around) (env : Env) (x : Str) (body : List Stmt) (d : D) (σ : St) (o : Own) (P : Post) (rest : St → Own → Prop) : Prop :=
  ∃ σ', Kq x σ σ' ∧ OwnNot o x ∧ Ex w A env ((x, d) :: σ') o body (fun fl σ₂ o₂ => match fl with
    | .next | .cont => rest σ₂ o₂
    | .brk => P .next σ₂ o₂
    | fl => P fl σ₂ o₂)
noncomputable def ForL (w : World) (A : Around) (env : Env) (x : Str) (body orelse : List Stmt) (P : Post) : List D → St → Own → Prop
  | [], σ, o => Ex w A env σ o orelse P
  | d :: ds, σ, o => FTurn w A env x body d σ o P (ForL w A env x body orelse P ds)

theorem ex_for {x : Str} {p pos : Pos} {iter : Expr} {body orelse : List Stmt} {ds : List D} (hi : Itr w A env σ o iter ds) (hk : env.kindOf x = some .local) (hd : dbg x)
    (hs : ∀ v, foldedSetIterable iter env v = pure v) (h : ForL w A env x body orelse P ds σ o) : Ex1 w A env σ o (.For (.Name x p) iter body orelse pos) P := by
  refine ⟨fun g s f => ?_⟩
  refine wpAny_For (wpF (hi.out g s f) fun v s₁ h₁ => wpF h₁ fun it s₂ h₂ => ?_) hs
  obtain ⟨k₂, I, fp, wr, PV, S, rfl, W, S0, hwr, hfp⟩ := h₂
  have ng : ∀ b ∈ wr, g.get? b = none := fun b hb => by
    cases q : g.get? b with
    | none => rfl
    | some ob => have := f.keep b ob q; rw [hwr b hb] at this; cases this
  refine codeAny_forLoop_any
    (fun k s' => ∃ i σ o, i ≤ ds.length ∧ k = ds.length + 1 - i ∧ ForL w A env x body orelse P (ds.drop i) σ o ∧ Fm w env σ o g s'.heap ∧ S i s'.heap ∧ (∃ h' tk, s' = { s with heap := h', toks := tk }) ∧ (∀ b ∈ fp, ¬ bad env o b)) ?_ (ds.length + 1)
    ⟨0, σ, o, Nat.zero_le _, rfl, h, f.mono (kHeap k₂), S0, kSh k₂, hfp⟩
  rintro k s' ⟨i, σ, o, hin, rfl, hF, f', Si, ⟨hh, tk, rfl⟩, hfp⟩
  have wsub := W.walk.sub
  by_cases hlt : i < ds.length
  · refine W.walk.item i _ _ _ hlt Si fun v h' tk' hPv St' hkp => ?_
    obtain ⟨d, hd', im⟩ := W.im i v hlt hPv
    have f1 : Fm w env σ o g h' := f'.but hkp ng (fun b hb => hfp b (wsub b hb)) (W.cls i _ Si)
    have hdrop : ds.drop i = d :: ds.drop (i + 1) := by
      rw [List.drop_eq_getElem_cons hlt]
      rw [List.getElem?_eq_getElem hlt] at hd'
      cases hd'; rfl
    rw [hdrop] at hF
    obtain ⟨σ', kp, hon, hX⟩ := hF
    refine wpAny_pure (wpAny_assign_Name (stName (s := { s with heap := h', toks := tk' }) f1 (Rd.ofIm im) hk hd kp hon fun h'' tk'' hsb f2 => ?_))
    have S2 : S (i + 1) h'' := W.walk.frame _ _ _ St' fun b hb ob e => (hsb.2 b fun q => hfp b hb (.inl (by rw [q]; exact .head _))).trans e
    obtain ⟨g', f3, gs, gk⟩ := f2.rebase
    refine wpF (hX.out g' _ f3) fun fl s₃ q => ?_
    obtain ⟨fl', σ₂, o₂, hp, ⟨h₃, tk₃, rfl⟩, f4, fr⟩ := q
    have f5 := f4.back f.gd gs
    have inG : ∀ b ∈ fp, ∃ ob, g'.get? b = some ob ∧ h''.get? b = some ob := fun b hb => by
      obtain ⟨ob, e⟩ := W.exs _ _ S2 b hb
      exact ⟨ob, gk b ob e (hfp b hb), e⟩
    have S3 : S (i + 1) h₃ := W.walk.frame _ _ _ S2 fun b hb ob e => by
      obtain ⟨ob', e1, e2⟩ := inG b hb
      rw [e2] at e; cases e
      exact f4.keep b _ e1
    have hfp' : ∀ b ∈ fp, ¬ bad env o₂ b := fun b hb q => by
      obtain ⟨ob', e1, _⟩ := inG b hb
      have := f4.badNot q
      rw [e1] at this; cases this
    have goOn : ForL w A env x body orelse P (ds.drop (i + 1)) σ₂ o₂ → ∃ m, m < ds.length + 1 - i ∧ ∃ i σ o, i ≤ ds.length ∧ m = ds.length + 1 - i ∧ ForL w A env x body orelse P (ds.drop i) σ o ∧ Fm w env σ o g h₃ ∧ S i h₃ ∧ (∃ h' tk, ({ s with heap := h₃, toks := tk₃ } : Shared) = { s with heap := h', toks := tk }) ∧ (∀ b ∈ fp, ¬ bad env o b) := fun hr =>
      ⟨ds.length + 1 - (i + 1), by omega, i + 1, σ₂, o₂, hlt, rfl, hr, f5, S3, ⟨h₃, tk₃, rfl⟩, hfp'⟩
    cases fl' with
    | next => cases fr; exact goOn hp
    | cont => cases fr; exact goOn hp
    | brk => cases fr; exact ⟨.next, σ₂, o₂, hp, ⟨h₃, tk₃, rfl⟩, f5, rfl⟩
    | ret d => obtain ⟨v, rfl, r⟩ := fr; exact ⟨.ret d, σ₂, o₂, hp, ⟨h₃, tk₃, rfl⟩, f5, v, rfl, r⟩
    | rown => obtain ⟨y, a, ds', e, rfl⟩ := fr; exact ⟨.rown, σ₂, o₂, hp, ⟨h₃, tk₃, rfl⟩, f5, y, a, ds', e, rfl⟩
  · have hend : i = ds.length := by omega
    subst hend
    refine W.walk.done _ _ _ Si fun h' tk' hkp => ?_
    have f1 : Fm w env σ o g h' := f'.but hkp ng (fun b hb => hfp b (wsub b hb)) (W.cls _ _ Si)
    rw [List.drop_length] at hF
    refine wpF (hF.out g _ f1) fun fl s₃ q => ?_
    exact Bh.trans ⟨h', tk', rfl⟩ q

theorem FTurn.mono {x : Str} {body : List Stmt} {d : D} {rest rest' : St → Own → Prop} (h : FTurn w A env x body d σ o P rest) (k : ∀ σ o, rest σ o → rest' σ o) : FTurn w A env x body d σ o P rest' := by
  obtain ⟨σ', h1, h2, h3⟩ := h
  refine ⟨σ', h1, h2, ex_mono h3 fun fl σ o q => ?_⟩
  cases fl <;> first | exact k _ _ q | exact q
theorem FTurn.forget {x : Str} {body : List Stmt} {d : D} {rest : St → Own → Prop} (h : FTurn w A env x body d σ' o P rest) (k : Sb σ' σ) : FTurn w A env x body d σ o P rest := by
  obtain ⟨σ₁, h1, h2, h3⟩ := h
  exact ⟨σ₁, fun p hp => ⟨k _ (h1 p hp).1, (h1 p hp).2⟩, h2, h3⟩
theorem ForL.forget {x : Str} {body orelse : List Stmt} {ds : List D} (h : ForL w A env x body orelse P ds σ' o) (k : Sb σ' σ) : ForL w A env x body orelse P ds σ o := by
  cases ds with
  | nil => exact ex_forget k h
  | cons d ds => exact FTurn.forget h k
/-- a loop by what holds between its turns -/
theorem forL_ind {S : Type} {x : Str} {body orelse : List Stmt} (st : S → St) (ow : S → Own) (I : List D → S → Prop)
    (hs : ∀ d ds s, I (d :: ds) s → FTurn w A env x body d (st s) (ow s) P (fun σ₂ o₂ => ∃ s', Sb (st s') σ₂ ∧ o₂ = ow s' ∧ I ds s')) (he : ∀ s, I [] s → Ex w A env (st s) (ow s) orelse P) :
    ∀ ds s, I ds s → ForL w A env x body orelse P ds (st s) (ow s)
  | [], s, h => he s h
  | d :: ds, s, h => (hs d ds s h).mono fun σ o ⟨s', h1, h2, h3⟩ => by
    subst h2
    exact (forL_ind st ow I hs he ds s' h3).forget h1
end
end Mine
end
section
open PySem PySem.W PyProof.Rows
set_option Elab.async false
set_option maxRecDepth 100000
set_option linter.unusedVariables false
namespace Mine
section
variable {w : World} {A : Around} {env : Env} {σ σ' : St} {o : Own} {P : Post}

theorem go_next {rest : List Stmt} (h : Ex w A env σ o rest P) : Go w A env rest P .next σ o := h
theorem go_ret {rest : List Stmt} {d : D} (h : P (.ret d) σ o) : Go w A env rest P (.ret d) σ o := h
theorem go_own {rest : List Stmt} (h : P .rown σ o) : Go w A env rest P .rown σ o := h
theorem go_brk {rest : List Stmt} (h : P .brk σ o) : Go w A env rest P .brk σ o := h
theorem go_cont {rest : List Stmt} (h : P .cont σ o) : Go w A env rest P .cont σ o := h

noncomputable def WhL (w : World) (A : Around) (env : Env) (test : Expr) (body : List Stmt) (P : Post) : Nat → St → Own → Prop
  | 0, _, _ => False
  | n + 1, σ, o => ∃ b, Ts w A env σ o test b ∧ (b = true → Ex w A env σ o body (fun fl σ₂ o₂ => match fl with
      | .next | .cont => WhL w A env test body P n σ₂ o₂
      | .brk => P .next σ₂ o₂
      | fl => P fl σ₂ o₂)) ∧ (b = false → P .next σ o)
theorem ex_while {test : Expr} {body : List Stmt} {pos : Pos} (n : Nat) (h : WhL w A env test body P n σ o) : Ex1 w A env σ o (.While test body [] pos) P := by
  refine ⟨fun g s f => ?_⟩
  refine wpAny_While (codeAny_whileLoop (fun k s' => ∃ σ o, WhL w A env test body P k σ o ∧ Fm w env σ o g s'.heap ∧ ∃ h' tk, s' = { s with heap := h', toks := tk }) ?_ n ⟨σ, o, h, f, s.heap, s.toks, rfl⟩)
  rintro k s' ⟨σ, o, hW, f', hh, tk, rfl⟩
  cases k with
  | zero => exact hW.elim
  | succ k =>
    obtain ⟨b, ht, hT, hF⟩ := hW
    refine wpF (ht.out g _ f') fun v s₂ q => ?_
    obtain ⟨k₂, rfl⟩ := q
    have f2 := f'.mono (kHeap k₂)
    obtain ⟨h₂, tk₂, rfl, _⟩ := k₂
    cases v with
    | true =>
      refine wpF ((hT rfl).out g _ f2) fun fl s₃ q => ?_
      obtain ⟨fl', σ₂, o₂, hp, ⟨h₃, tk₃, rfl⟩, f4, fr⟩ := q
      cases fl' with
      | next => cases fr; exact ⟨k, Nat.lt_succ_self k, σ₂, o₂, hp, f4, h₃, tk₃, rfl⟩
      | cont => cases fr; exact ⟨k, Nat.lt_succ_self k, σ₂, o₂, hp, f4, h₃, tk₃, rfl⟩
      | brk => cases fr; exact ⟨.next, σ₂, o₂, hp, ⟨h₃, tk₃, rfl⟩, f4, rfl⟩
      | ret d => obtain ⟨v, rfl, r⟩ := fr; exact ⟨.ret d, σ₂, o₂, hp, ⟨h₃, tk₃, rfl⟩, f4, v, rfl, r⟩
      | rown => obtain ⟨y, a, ds', e, rfl⟩ := fr; exact ⟨.rown, σ₂, o₂, hp, ⟨h₃, tk₃, rfl⟩, f4, y, a, ds', e, rfl⟩
    | false => exact wpAny_execs_nil ⟨.next, σ, o, hF rfl, ⟨h₂, tk₂, rfl⟩, f2, rfl⟩

/-- x op= e -/
structure Aug (w : World) (A : Around) (op : Operator) (a b d : D) : Prop where
  out : ∀ (s : Shared) (va vb : Value), Im va a → Im vb b → wpAny (model prg w) A (inplaceOp op va vb) (fun v s' => Keeps s s' ∧ Im v d) (fun _ _ => False) s
theorem g_add {a b : Int} : Aug w A .Add (.int a) (.int b) (.int (a + b)) := by constructor; rintro s _ _ ⟨t, rfl⟩ ⟨u, rfl⟩; exact PyProof.Rows.iadd_int ⟨kToks, _, rfl⟩
theorem g_adds {a b : Str} (hz : a.length + b.length ≤ sizeLine) : Aug w A .Add (.str a) (.str b) (.str (a ++ b)) := by constructor; rintro s _ _ ⟨t, rfl⟩ ⟨u, rfl⟩; exact PyProof.Rows.iadd_str (fun t' tk => ⟨kToks, _, rfl⟩) hz
theorem ex_aug {x : Str} {p pos : Pos} {op : Operator} {e : Expr} {a b d : D} (hm : (x, a) ∈ σ) (he : Ev w A env σ o e b) (hop : Aug w A op a b d) (kp : Kq x σ σ') (hk : env.kindOf x = some .local) (ho : OwnNot o x)
    (ia : isIm a = true) (ib : isIm b = true) (h : P .next ((x, d) :: σ') o) : Ex1 w A env σ o (.AugAssign (.Name x p) op e pos) P := by
  refine ⟨fun g s f => ?_⟩
  obtain ⟨m, hn, hs, _⟩ := f.ns
  obtain ⟨v, ⟨hd, hv⟩, hr⟩ := hs _ hm
  have hv' : m x = some v := by
    rcases hv with ⟨_, hv⟩ | ⟨c, ob, hk', _⟩
    · exact hv
    · rcases hk' with hk' | hk' <;> (rw [hk] at hk'; cases hk')
  refine wpAny_AugAssign_Name (wpAny_loadName_local f.fn hk hn hv' (wpF (he.out g s f) fun vb s₁ q₁ => wpF (hop.out s₁ v vb (hr.im ia) (q₁.2.im ib)) fun r s₂ q₂ => ?_))
  have k := kTrans q₁.1 q₂.1
  refine stName (f.mono (kHeap k)) (Rd.ofIm q₂.2) hk hd kp ho fun h' tk _ f' => ?_
  obtain ⟨h1, t1, rfl, _⟩ := k
  exact ⟨.next, _, _, h, ⟨h', tk, rfl⟩, f', rfl⟩

/-- assert of what holds -/
theorem ex_assert {c : Expr} {msg : Option Expr} {pos : Pos} (hc : Ts w A env σ o c true) (h : P .next σ o) : Ex1 w A env σ o (.Assert c msg pos) P := by
  refine ⟨fun g s f => ?_⟩
  show wpAny _ A (do standAt pos; if ← isTrue c env (eval c env) then pure .next else assertFails c.pos (evalOpt msg env)) _ _ s
  refine wpAny_bind (wpAny_standAt (wpAny_bind (wpF (hc.out g s f) fun v s₁ q₁ => ?_)))
  obtain ⟨k, rfl⟩ := q₁
  exact wpAny_pure ⟨.next, σ, o, h, kSh k, f.mono (kHeap k), rfl⟩

/-- x.extend(e) -/
theorem ex_extend {x : Str} {a : Addr} {ds ds' : List D} {p pa pc pos : Pos} {e : Expr} (he : Ev w A env σ (some (x, a, ds)) e (.list ds')) (hz : ds.length + ds'.length ≤ 1000000)
    (hs : starEach [e] env = [(false, eval e env)]) (hline : (pa.endLine == pc.line) = true) (h : P .next σ (some (x, a, ds ++ ds'))) : Ex1 w A env σ (some (x, a, ds)) (.Expr (.Call (.Attribute (.Name x p) (Str.ofString "extend") pa) [e] [] pc) pos) P := by
  refine ⟨fun g s f => ?_⟩
  refine wpAny_Expr ?_ (by unfold interactive; rw [f.fn]; rfl) rfl
  refine Call_method1 rfl hs hline (own_name f ?_)
  obtain ⟨m, hn, _, ho⟩ := f.ns
  obtain ⟨h1, h2, h3, h3', h4, vs, h5, h6⟩ := ho x a ds rfl
  refine meth_list PySem.F.slot_list_extend PySem.F.type_list_extend h5 (wpF (he.out g s f) fun v s₁ q₁ => ?_)
  have f1 := f.mono (kHeap q₁.1)
  obtain ⟨m1, hn1, _, ho1⟩ := f1.ns
  obtain ⟨_, _, _, _, _, vs1, ⟨n1, e1⟩, il1⟩ := ho1 x a ds rfl
  obtain ⟨b, vs2, rfl, nb, ⟨n2, e2⟩, il2⟩ := q₁.2
  have l1 := il1.length
  have l2 := il2.length
  have hsl : sizeLine = 16777216 := sizeLine_eq
  have hd : ¬(!vs1.toArray.isEmpty && Builtin.List.listTooLong (vs1.toArray.size + vs2.toArray.size)) = true := by
    have : Builtin.List.listTooLong (vs1.toArray.size + vs2.toArray.size) = false := by
      unfold Builtin.List.listTooLong
      simp
      first
        | omega
        | (rw [hsl]; omega)
    rw [this]; simp
  refine call_meets PySem.F.slot_list_extend ⟨_, e1, rfl⟩ PySem.F.entry_list_extend (PySem.F.args_list_extend_2 _ _) (PySem.AutoSeq1.list_extend_list_list_0 a vs1.toArray n1 b vs2.toArray n2 hd (by rw [List.size_toArray]; omega) (by rw [List.size_toArray, List.size_toArray]; omega)) ⟨e1, e2, ?_⟩
  obtain ⟨h2, t2, rfl, _⟩ := q₁.1
  refine ⟨.next, σ, _, h, ⟨_, t2, rfl⟩, f1.turn (vs' := vs1 ++ vs2) (Heap.SameBut.update ..) ?_ (il1.append il2), rfl⟩
  have q := PySem.IsL.update e1 (fun x => x ++ vs2.toArray)
  simp only [List.append_toArray] at q
  split at q
  · exact ⟨_, q⟩
  · exact ⟨_, q⟩
end

theorem lookup_zip : ∀ {names : List Str} {vs : List Value}, names.Nodup → names.length = vs.length → ∀ {i : Nat} {x : Str} {v : Value}, names[i]? = some x → vs[i]? = some v → (names.zip vs).reverse.lookup x = some v
  | [], [], _, _, _, _, _, e, _ => by simp at e
  | n :: names, u :: vs, hn, hl, 0, x, v, e1, e2 => by
    simp at e1 e2; subst e1 e2
    have nm : (names.zip vs).reverse.lookup n = none := by
      apply List.lookup_eq_none_iff.mpr
      intro p hp
      have : p.1 ∈ names := by
        have := List.mem_reverse.mp hp
        exact (List.of_mem_zip (a := p.1) (b := p.2) this).1
      simp only [bne_iff_ne, ne_eq]
      intro q
      have hq : n = p.1 := by simpa using q
      exact (List.nodup_cons.mp hn).1 (hq ▸ this)
    rw [List.zip_cons_cons, List.reverse_cons, List.lookup_append, nm]
    simp
  | n :: names, u :: vs, hn, hl, i + 1, x, v, e1, e2 => by
    have ih := lookup_zip (List.nodup_cons.mp hn).2 (by simpa using hl) (i := i) (x := x) (v := v) (by simpa using e1) (by simpa using e2)
    rw [List.zip_cons_cons, List.reverse_cons, List.lookup_append, ih]
    rfl
  | [], _ :: _, _, hl, _, _, _, _, _ => by simp at hl
  | _ :: _, [], _, hl, _, _, _, _, _ => by simp at hl
theorem RdL.length {bd : Addr → Prop} {h : Heap} : ∀ {vs : List Value} {ds : List D}, RdL bd h vs ds → vs.length = ds.length
  | [], [], _ => rfl
  | _ :: _, _ :: _, r => by rw [List.length_cons, List.length_cons, RdL.length r.2]
  | [], _ :: _, r => r.elim
  | _ :: _, [], r => r.elim
theorem RdL.get {bd : Addr → Prop} {h : Heap} : ∀ {vs : List Value} {ds : List D}, RdL bd h vs ds → ∀ {i : Nat} {d : D}, ds[i]? = some d → ∃ v, vs[i]? = some v ∧ Rd bd h v d
  | [], [], _, _, _, e => by simp at e
  | v :: _, d :: _, r, 0, _, e => by
    simp at e; subst e
    exact ⟨v, rfl, r.1⟩
  | _ :: _, _ :: _, r, i + 1, _, e => by
    have := RdL.get r.2 (i := i) (by simpa using e)
    simpa using this
  | [], _ :: _, r, _, _, _ => r.elim
  | _ :: _, [], r, _, _, _ => r.elim

/-- a def's facts -/
structure Fd (w : World) (f : Addr) (fd : FuncData) (body : List Stmt) (names : List Str) : Prop where
  ho : ∃ oc od osl, (KK w).lookup f = some ⟨oc, od, .func fd, osl⟩
  hbody : fd.body = .stmts body
  hcd : codeIn (KK w) fd.code fd.qualname = true
  hgl : fd.globals = mainGlobals
  hbl : fd.builtins = builtinsNs
  hcl : fd.closure = []
  hn : names.Nodup
  hdb : ∀ x ∈ names, dbg x
  hcell : ∀ x ∈ fd.scope.names, x.2 ≠ .cell
  hloc : ∀ x ∈ names, fd.scope.names.lookup x = some .local
  hco : fd.scope.isCoroutine = false
  hgen : fd.scope.isGenerator = false
  hk : fd.scope.kind = .function

/-- the frame as a call lays it -/
theorem Fd.frame {w : World} {f : Addr} {fd : FuncData} {body : List Stmt} {names : List Str} (F : Fd w f fd body names) {s : Shared} {vs : List Value} {ds : List D} {bd : Addr → Prop} {h₀ : Heap} (gd : Gd w s.heap) (hr : RdL bd s.heap vs ds) (hl : ds.length = names.length)
    (hns : h₀.Ns s.heap.objs.size (fun x => (names.zip vs).reverse.lookup x)) (hk : ∀ b o, s.heap.get? b = some o → h₀.get? b = some o) : Fm w (callEnv fd s.heap.objs.size f) (names.zip ds) none s.heap h₀ := by
  have fz : s.heap.get? s.heap.objs.size = none := by
    cases q : s.heap.get? s.heap.objs.size with
    | none => rfl
    | some ob => exact absurd (Heap.lt_size q) (Nat.lt_irrefl _)
  have hfad : fad (callEnv fd s.heap.objs.size f) = [s.heap.objs.size] := by
    show s.heap.objs.size :: (fd.closure.map (·.2)) = _
    rw [F.hcl]; rfl
  refine ⟨gd, hk, fun a ha => ?_, F.hk, F.hgl, F.hbl, fun p hp => ?_, _, hns, fun p hp => ?_, fun _ _ _ e => nomatch e⟩
  · rw [hfad] at ha
    rw [List.mem_singleton.mp ha]; exact fz
  · have : p ∈ fd.closure := hp
    rw [F.hcl] at this; cases this
  · obtain ⟨i, hi, e⟩ := List.getElem_of_mem hp
    have hi1 : i < names.length := by have := hi; rw [List.length_zip] at this; omega
    have hi2 : i < ds.length := by have := hi; rw [List.length_zip] at this; omega
    have e' : p = (names[i], ds[i]) := by rw [← e]; simp
    subst e'
    obtain ⟨v, hv, rd⟩ := hr.get (i := i) (d := ds[i]) (by simp [hi2])
    have hx : names[i] ∈ names := List.getElem_mem _
    refine ⟨v, ⟨F.hdb _ hx, .inl ⟨F.hloc _ hx, lookup_zip F.hn (by rw [hr.length, hl]) (i := i) (by simp [hi1]) hv⟩⟩, ?_⟩
    show Rd _ _ _ ds[i]
    clear e hp
    generalize ds[i] = d' at rd ⊢
    cases d' with
    | list ds₁ =>
      obtain ⟨a, vs', e, _, ⟨n, hl⟩, hi⟩ := rd
      refine ⟨a, vs', e, ?_, ⟨n, hk _ _ hl⟩, hi⟩
      rintro (q | ⟨_, _, q⟩)
      · rw [hfad] at q
        have := List.mem_singleton.mp q
        rw [this, fz] at hl; cases hl
      · cases q
    | _ => exact rd
structure Kd (env : Env) (names : List (Str × NameKind)) : Prop where
  k : ∀ x, env.kindOf x = names.lookup x
theorem kd_of {env : Env} {names : List (Str × NameKind)} {x : Str} {k : NameKind} (K : Kd env names) (h : names.lookup x = some k) : env.kindOf x = some k := (K.k x).trans h
/-- a def that gives a plain value -/
theorem cal_val {w : World} {A : Around} {f : Addr} {fd : FuncData} {body : List Stmt} {names : List Str} {ds : List D} {r : D} (σ₀ : St) (F : Fd w f fd body names) (hA : Ok 1 A) (hσ : names.zip ds = σ₀) (hl : ds.length = names.length)
    (hb : ∀ (s : Shared) (vs : List Value), Gd w s.heap → vs.length = names.length → BindsTo s fd ⟨vs, []⟩ (names.zip vs)) (hr : isIm r = true)
    (h : ∀ env, Kd env fd.scope.names → Ex w (A.deeper env) env σ₀ none body (fun fl _ _ => fl = .ret r)) : Cal w A (.ref f) ds r := by
  subst hσ
  constructor; intro bd s vs gd hbd rd
  obtain ⟨oc, od, osl, ho⟩ := F.ho
  refine wpAny_call (codeAny_call_def (by have := hA.dep; omega) (gd.k _ _ ho) rfl gd.lim (codeRec_of gd.k F.hcd) F.hbody (hb s vs gd (by rw [rd.length, hl])) F.hcell (fun p hp => ?_) (fun h₀ hns hk => ?_) F.hco F.hgen F.hk)
  · exact F.hloc _ (List.of_mem_zip (a := p.1) (b := p.2) hp).1
  · refine wpF ((h (callEnv fd s.heap.objs.size f) ⟨fun _ => rfl⟩).out s.heap _ (F.frame gd rd hl hns hk)) fun fl s' q => ?_
    obtain ⟨fl', σ', o', rfl, ⟨h', tk, rfl⟩, f', v, rfl, r'⟩ := q
    exact ⟨kMk f'.keep, Rd.ofIm (r'.im hr)⟩
/-- a def that gives a list that it has made -/
theorem cal_own {w : World} {A : Around} {f : Addr} {fd : FuncData} {body : List Stmt} {names : List Str} {ds ds' : List D} (σ₀ : St) (F : Fd w f fd body names) (hA : Ok 1 A) (hσ : names.zip ds = σ₀) (hl : ds.length = names.length)
    (hb : ∀ (s : Shared) (vs : List Value), Gd w s.heap → vs.length = names.length → BindsTo s fd ⟨vs, []⟩ (names.zip vs))
    (h : ∀ env, Kd env fd.scope.names → Ex w (A.deeper env) env σ₀ none body (fun fl _ o => fl = .rown ∧ ∃ x a, o = some (x, a, ds'))) : Cal w A (.ref f) ds (.list ds') := by
  subst hσ
  constructor; intro bd s vs gd hbd rd
  obtain ⟨oc, od, osl, ho⟩ := F.ho
  refine wpAny_call (codeAny_call_def (by have := hA.dep; omega) (gd.k _ _ ho) rfl gd.lim (codeRec_of gd.k F.hcd) F.hbody (hb s vs gd (by rw [rd.length, hl])) F.hcell (fun p hp => ?_) (fun h₀ hns hk => ?_) F.hco F.hgen F.hk)
  · exact F.hloc _ (List.of_mem_zip (a := p.1) (b := p.2) hp).1
  · refine wpF ((h (callEnv fd s.heap.objs.size f) ⟨fun _ => rfl⟩).out s.heap _ (F.frame gd rd hl hns hk)) fun fl s' q => ?_
    obtain ⟨fl', σ', o', ⟨rfl, x, a, rfl⟩, ⟨h', tk, rfl⟩, f', x', a', ds₁, e, rfl⟩ := q
    cases e
    obtain ⟨m, hn, _, hO⟩ := f'.ns
    obtain ⟨h1, _, _, _, _, vs', hl', il'⟩ := hO x a ds' rfl
    refine ⟨kMk f'.keep, a, vs', rfl, fun q => ?_, hl', il'⟩
    obtain ⟨ob, e⟩ := hbd a q
    rw [h1] at e; cases e
end Mine
end
section
open PySem PySem.W PyProof.Rows
set_option Elab.async false
set_option maxRecDepth 100000
set_option linter.unusedVariables false
namespace Mine
section
variable {w : World} {A : Around} {env : Env} {σ σ' : St} {o : Own} {P : Post}

noncomputable abbrev dI (ns : List Int) : List D := ns.map D.int
noncomputable abbrev dS (ss : List Str) : List D := ss.map D.str
theorem intsAre : ∀ {vs : List Value} {ns : List Int}, ImL vs (dI ns) → IntsAre vs ns
  | [], [], _ => .nil
  | v :: vs, n :: ns, h => by
    obtain ⟨⟨t, rfl⟩, h2⟩ := h
    exact .cons n t (intsAre h2)
  | [], _ :: _, h => h.elim
  | _ :: _, [], h => h.elim

/-- iterables -/
theorem itr_list {e : Expr} {ds : List D} (he : Ev w A env σ o e (.list ds)) (hA : A.handled = none) : Itr w A env σ o e ds := by
  refine ⟨fun g s f => ?_⟩
  refine wpF (he.out g s f) fun v s₁ q => ?_
  obtain ⟨k, a, vs, rfl, nb, hl, hi⟩ := q
  refine wpAny_pyIter_list hl.isList ?_
  have f1 := f.mono (kHeap k)
  obtain ⟨n, ho⟩ := hl
  have hne : a ≠ s₁.heap.objs.size := Nat.ne_of_lt (Heap.lt_size ho)
  have W := Walks.list (prog := prg) (w := w) (A := A) hA s₁.heap.objs.size a hne vs.toArray
  rw [show vs.toArray.size = ds.length from List.size_toArray.trans hi.length] at W
  refine ⟨kTrans k (kMk (t := s₁.toks) fun b ob e => Heap.get?_push_of_some _ e), s₁.heap.objs.size, [s₁.heap.objs.size, a], [s₁.heap.objs.size], _, _, rfl, ⟨W, ?_, ?_, ?_⟩, ?_, ?_, ?_⟩
  · intro i v hlt hv
    have hv' : vs[i]? = some v := by simpa using hv
    exact hi.getV hv'
  · rintro i h ⟨⟨ob, e1, e2, _⟩, _⟩ b hb
    rw [List.mem_singleton.mp hb]
    exact ⟨ob, e1, by rw [e2]; intro q; exact absurd (Value.type.inj q) (by decide)⟩
  · rintro i h ⟨⟨ob, e1, _⟩, ⟨ob2, e2, _⟩⟩ b hb
    rcases List.mem_cons.mp hb with rfl | hb
    · exact ⟨ob, e1⟩
    · rw [List.mem_singleton.mp hb]; exact ⟨ob2, e2⟩
  · exact ⟨⟨_, Heap.get?_push_size _ rfl, rfl, rfl⟩, ⟨_, Heap.get?_push_of_some _ ho, rfl, n, rfl⟩⟩
  · intro b hb
    rw [List.mem_singleton.mp hb]
    cases q : s.heap.get? s₁.heap.objs.size with
    | none => rfl
    | some ob => exact absurd (Heap.lt_size (kHeap k _ _ q)) (Nat.lt_irrefl _)
  · intro b hb
    rcases List.mem_cons.mp hb with rfl | hb
    · exact fresh_not fun a b => f1.badIn b
    · rw [List.mem_singleton.mp hb]; exact nb
theorem bytIts (b : Array UInt8) : (dI (KBw.bInts b)).length = b.size := by simp [KBw.ints_length]
theorem itr_byt {e : Expr} {b : Array UInt8} (he : Ev w A env σ o e (.byt b)) (hA : A.handled = none) : Itr w A env σ o e (dI (KBw.bInts b)) := by
  refine ⟨fun g s f => ?_⟩
  refine wpF (he.out g s f) fun v s₁ q => ?_
  obtain ⟨k, t, rfl⟩ := q
  refine KBw.pyIter_bytes ?_
  have f1 := f.mono (kHeap k)
  have W := KBw.walks (prog := prg) (w := w) (A := A) hA s₁.heap.objs.size b t
  rw [← bytIts b] at W
  refine ⟨kTrans k (kMk (t := s₁.toks) fun b ob e => Heap.get?_push_of_some _ e), s₁.heap.objs.size, [s₁.heap.objs.size], [s₁.heap.objs.size], _, _, rfl, ⟨W, ?_, ?_, ?_⟩, ?_, ?_, ?_⟩
  · rintro i v hlt ⟨c, u, hc, rfl⟩
    refine ⟨.int (c.toNat : Int), ?_, u, rfl⟩
    show (List.map D.int (KBw.bInts b))[i]? = _
    rw [List.getElem?_map, KBw.ints_get hc]; rfl
  · rintro i h ⟨ob, e1, e2, _⟩ b hb
    rw [List.mem_singleton.mp hb]
    exact ⟨ob, e1, by rw [e2]; intro q; exact absurd (Value.type.inj q) (by decide)⟩
  · rintro i h ⟨ob, e1, _⟩ b hb
    rw [List.mem_singleton.mp hb]; exact ⟨ob, e1⟩
  · exact ⟨_, Heap.get?_push_size _ rfl, rfl, rfl⟩
  · intro b hb
    rw [List.mem_singleton.mp hb]
    cases q : s.heap.get? s₁.heap.objs.size with
    | none => rfl
    | some ob => exact absurd (Heap.lt_size (kHeap k _ _ q)) (Nat.lt_irrefl _)
  · intro b hb
    rw [List.mem_singleton.mp hb]
    exact fresh_not fun a b => f1.badIn b
/-- the dI of a range -/
noncomputable def rng (a c : Int) (n : Nat) : List Int := (List.range n).map fun (i : Nat) => a + (i : Int) * c
theorem rng_len (a c : Int) (n : Nat) : (dI (rng a c n)).length = n := by simp [rng]
/-- an expression that gives a range -/
structure EvR (w : World) (A : Around) (env : Env) (σ : St) (o : Own) (e : Expr) (a b c : Int) : Prop where
  out : ∀ g s, Fm w env σ o g s.heap → wpAny (model prg w) A (eval e env) (fun v s' => Keeps s s' ∧ ∃ r t u x, v = .ref r ∧ IsRange s'.heap r a b c t u x) (fun _ _ => False) s
theorem itr_rng {e : Expr} {a b c : Int} {n : Nat} (he : EvR w A env σ o e a b c) (hA : A.handled = none) (hsm : Builtin.Range.small a b c = true) (hn : Builtin.Range.rangeSize a b c = (n : Int)) : Itr w A env σ o e (dI (rng a c n)) := by
  refine ⟨fun g s f => ?_⟩
  refine wpF (he.out g s f) fun v s₁ q => ?_
  obtain ⟨k, r, t, u, x, rfl, hr⟩ := q
  refine wpAny_pyIter_range hr hsm ?_
  have f1 := f.mono (kHeap k)
  have W := Walks.range (prog := prg) (w := w) (A := A) hA s₁.heap.objs.size a c n
  have W' : Walks prg w A s₁.heap.objs.size [s₁.heap.objs.size] [s₁.heap.objs.size] (dI (rng a c n)).length (fun i v => ∃ t, v = .int (a + i * c) t) (fun i h => IsRangeIter h s₁.heap.objs.size (a + (i : Nat) * c) ((n : Int) - (i : Nat)) c) := by
    rw [rng_len]; exact W
  refine ⟨kTrans k (kMk (t := s₁.toks) fun b ob e => Heap.get?_push_of_some _ e), s₁.heap.objs.size, [s₁.heap.objs.size], [s₁.heap.objs.size], _, _, rfl, ⟨W', ?_, ?_, ?_⟩, ?_, ?_, ?_⟩
  · rintro i v hlt ⟨t, rfl⟩
    refine ⟨.int (a + i * c), ?_, t, rfl⟩
    rw [rng_len] at hlt
    simp [rng, hlt]
  · rintro i h e b hb
    rw [List.mem_singleton.mp hb]
    exact ⟨_, e, fun q => absurd (Value.type.inj q) (by decide)⟩
  · rintro i h e b hb
    rw [List.mem_singleton.mp hb]; exact ⟨_, e⟩
  · show IsRangeIter _ _ _ _ _
    rw [hn]
    simpa using Heap.get?_push_size s₁.heap (o := { cls := .type "range_iterator", data := .fields #[rawInt a, rawInt (n : Int), rawInt c] }) rfl
  · intro b hb
    rw [List.mem_singleton.mp hb]
    cases q : s.heap.get? s₁.heap.objs.size with
    | none => rfl
    | some ob => exact absurd (Heap.lt_size (kHeap k _ _ q)) (Nat.lt_irrefl _)
  · intro b hb
    rw [List.mem_singleton.mp hb]
    exact fresh_not fun a b => f1.badIn b
/-- a tuple that is written, or one of the top -/
theorem itr_tupAt {a : Addr} {vs : List Value} {ds : List D} {s s₁ : Shared} {g : Heap} (hA : A.handled = none) (f : Fm w env σ o g s.heap) (k : Keeps s s₁) (ht : s₁.heap.IsTuple a vs.toArray) (nb : ¬ bad env o a) (hi : ImL vs ds) :
    wpAny (model prg w) A (pyIter (.ref a)) (fun it s₂ => Keeps s s₂ ∧ ∃ I fp wr PV S, it = .ref I ∧ Wk w A I ds fp wr PV S ∧ S 0 s₂.heap ∧ (∀ b ∈ wr, s.heap.get? b = none) ∧ (∀ b ∈ fp, ¬ bad env o b)) (fun _ _ => False) s₁ := by
  refine wpAny_pyIter_tuple ht ?_
  have f1 := f.mono (kHeap k)
  obtain ⟨ob0, ho, hc0, n, hd0⟩ := id ht
  have hne : a ≠ s₁.heap.objs.size := Nat.ne_of_lt (Heap.lt_size ho)
  have W := Walks.tuple (prog := prg) (w := w) (A := A) hA s₁.heap.objs.size a hne vs.toArray
  rw [show vs.toArray.size = ds.length from List.size_toArray.trans hi.length] at W
  refine ⟨kTrans k (kMk (t := s₁.toks) fun b ob e => Heap.get?_push_of_some _ e), s₁.heap.objs.size, [s₁.heap.objs.size, a], [s₁.heap.objs.size], _, _, rfl, ⟨W, ?_, ?_, ?_⟩, ?_, ?_, ?_⟩
  · intro i v hlt hv
    have hv' : vs[i]? = some v := by simpa using hv
    exact hi.getV hv'
  · rintro i h ⟨⟨ob, e1, e2, _⟩, _⟩ b hb
    rw [List.mem_singleton.mp hb]
    exact ⟨ob, e1, by rw [e2]; intro q; exact absurd (Value.type.inj q) (by decide)⟩
  · rintro i h ⟨⟨ob, e1, _⟩, ⟨ob2, e2, _⟩⟩ b hb
    rcases List.mem_cons.mp hb with rfl | hb
    · exact ⟨ob, e1⟩
    · rw [List.mem_singleton.mp hb]; exact ⟨ob2, e2⟩
  · exact ⟨⟨_, Heap.get?_push_size _ rfl, rfl, rfl⟩, ⟨ob0, Heap.get?_push_of_some _ ho, hc0, n, hd0⟩⟩
  · intro b hb
    rw [List.mem_singleton.mp hb]
    cases q : s.heap.get? s₁.heap.objs.size with
    | none => rfl
    | some ob => exact absurd (Heap.lt_size (kHeap k _ _ q)) (Nat.lt_irrefl _)
  · intro b hb
    rcases List.mem_cons.mp hb with rfl | hb
    · exact fresh_not fun a b => f1.badIn b
    · rw [List.mem_singleton.mp hb]; exact nb
theorem itr_tup {es : List Expr} {ds : List D} {kk : Nat} {pos : Pos} (hs : Evs w A env σ o es ds) (hA : A.handled = none) (hi : ds.all isIm = true) (hz : ds.length ≤ 1000) : Itr w A env σ o (.Tuple es kk pos) ds := by
  refine ⟨fun g s f => ?_⟩
  refine Tuple_ (wpF (spl hs g s f) fun vs s₁ q₁ => ?_)
  have il := RdL.imL hi q₁.2
  have f1 := f.mono (kHeap q₁.1)
  refine wpAny_newObj_type ?_ (by show vs.toArray.size ≤ sizeLine; rw [List.size_toArray, il.length, sizeLine_eq]; omega)
  exact itr_tupAt hA f (kTrans q₁.1 (kMk (t := s₁.toks) fun b ob e => Heap.get?_push_of_some _ e)) ⟨_, Heap.get?_push_size _ rfl, rfl, _, rfl⟩ (fresh_not fun a b => f1.badIn b) il
/-- a tuple of the written part -/
theorem itr_tupK {e : Expr} {a : Addr} {ob : Obj} {vs : List Value} {n : Nat} {ds : List D} (he : Ev w A env σ o e (.ref a)) (hA : A.handled = none) (ho : (KK w).lookup a = some ob) (hc : ob.cls = .type "tuple") (hd : ob.data = .seq vs.toArray n) (hi : ImL vs ds) : Itr w A env σ o e ds := by
  refine ⟨fun g s f => ?_⟩
  refine wpF (he.out g s f) fun v s₁ q => ?_
  obtain ⟨k, rfl⟩ := q
  refine itr_tupAt hA f k ⟨ob, (f.gh.mono (kHeap k)).k _ _ ho, hc, n, hd⟩ (fun q => ?_) hi
  have := f.badNot q
  rw [f.gd.k _ _ ho] at this; cases this
end
end Mine
end
section
open PySem PySem.W PyProof.Rows
set_option Elab.async false
set_option maxRecDepth 100000
set_option linter.unusedVariables false
namespace Mine
section
variable {w : World} {A : Around} {env : Env} {σ σ' : St} {o : Own} {P : Post}
theorem rdl1 {bd : Addr → Prop} {h : Heap} {vs : List Value} {d : D} (r : RdL bd h vs [d]) : ∃ v, vs = [v] ∧ Rd bd h v d := by
  match vs, r with
  | [v], r => exact ⟨v, rfl, r.1⟩
theorem rdl2 {bd : Addr → Prop} {h : Heap} {vs : List Value} {d e : D} (r : RdL bd h vs [d, e]) : ∃ v u, vs = [v, u] ∧ Rd bd h v d ∧ Rd bd h u e := by
  match vs, r with
  | [v, u], r => exact ⟨v, u, rfl, r.1, r.2.1⟩
theorem rdl3 {bd : Addr → Prop} {h : Heap} {vs : List Value} {d e f : D} (r : RdL bd h vs [d, e, f]) : ∃ v u x, vs = [v, u, x] ∧ Rd bd h v d ∧ Rd bd h u e ∧ Rd bd h x f := by
  match vs, r with
  | [v, u, x], r => exact ⟨v, u, x, rfl, r.1, r.2.1, r.2.2.1⟩
/-- built-in calls -/
theorem cl_intBool {b : Bool} : Cal w A (.type "int") [.bool b] (.int (if b then 1 else 0)) := by
  constructor; rintro bd s vs gd hb hr
  obtain ⟨v, rfl, e⟩ := rdl1 hr
  cases (show v = .bool b from e)
  exact call_int_bool ⟨kToks, _, rfl⟩
theorem cl_ord {x : Str} (h : x.length = 1) : Cal w A (.builtin "ord") [.str x] (.int (x.cps.getD 0 0 : Nat)) := by
  constructor; rintro bd s vs gd hb hr
  obtain ⟨v, rfl, t, rfl⟩ := rdl1 hr
  exact ord_of_one h ⟨kToks, _, rfl⟩
theorem cl_chr {i : Int} (h0 : 0 ≤ i) (h1 : i ≤ 1114111) : Cal w A (.builtin "chr") [.int i] (.str ⟨#[i.toNat]⟩) := by
  constructor; rintro bd s vs gd hb hr
  obtain ⟨v, rfl, t, rfl⟩ := rdl1 hr
  exact chr_of_range h0 h1 ⟨kToks, _, rfl⟩
theorem cl_lenB {b : Array UInt8} (h : b.size ≤ 1099511627776) : Cal w A (.builtin "len") [.byt b] (.int b.size) := by
  constructor; rintro bd s vs gd hb hr
  obtain ⟨v, rfl, t, rfl⟩ := rdl1 hr
  exact len_bytes h ⟨⟨s.heap, _, rfl, fun _ _ e => e⟩, _, rfl⟩
theorem cl_lenS {x : Str} (h : x.length ≤ 1099511627776) : Cal w A (.builtin "len") [.str x] (.int x.length) := by
  constructor; rintro bd s vs gd hb hr
  obtain ⟨v, rfl, t, rfl⟩ := rdl1 hr
  exact PySem.P.len_str (by omega) ⟨⟨s.heap, _, rfl, fun _ _ e => e⟩, _, rfl⟩
theorem cl_lenL {ds : List D} (h : ds.length ≤ 1099511627776) : Cal w A (.builtin "len") [.list ds] (.int ds.length) := by
  constructor; rintro bd s vs gd hb hr
  obtain ⟨v, rfl, a, vs', rfl, nb, hl, hi⟩ := rdl1 hr
  refine PyProof.Rows.len_list hl.isList (by simp [hi.length]; omega) ?_
  refine ⟨⟨s.heap, _, rfl, fun _ _ e => e⟩, s.toks + 1, ?_⟩
  rw [List.size_toArray, hi.length]
theorem cl_bytes {ns : List Int} (hA : A.handled = none) (hr : ∀ n ∈ ns, 0 ≤ n ∧ n < 256) (hz : ns.length ≤ 1000000) : Cal w A (.type "bytes") [.list (dI ns)] (.byt (byteArr ns)) := by
  constructor; rintro bd s vs gd hb hr'
  obtain ⟨v, rfl, a, vs', rfl, nb, hl, hi⟩ := rdl1 hr'
  have il := intsAre hi
  exact call_bytes_ints hl.isList il hr (by rw [il.length, sizeLine_eq]; omega) hA fun h' t k hk => ⟨kMk hk, _, rfl⟩
theorem cl_typeB {b : Array UInt8} : Cal w A (.type "type") [.byt b] (.typ "bytes") := by
  constructor; rintro bd s vs gd hb hr
  obtain ⟨v, rfl, t, rfl⟩ := rdl1 hr
  exact call_type_of (Tx := "bytes") rfl (by decide +kernel) ⟨kRefl s, rfl⟩
theorem cl_typeBool {b : Bool} : Cal w A (.type "type") [.bool b] (.typ "bool") := by
  constructor; rintro bd s vs gd hb hr
  obtain ⟨v, rfl, e⟩ := rdl1 hr
  cases (show v = .bool b from e)
  exact call_type_of (Tx := "bool") rfl (by decide +kernel) ⟨kRefl s, rfl⟩
theorem preS_ex {ns : List Int} : ∃ S : Int, S = preSum (fun i => ns.getD i 0) ns.length := ⟨_, rfl⟩
theorem cl_sum {ns : List Int} (hA : A.handled = none) : Cal w A (.builtin "sum") [.list (dI ns)] (.int (preSum (fun i => ns.getD i 0) ns.length)) := by
  constructor; rintro bd s vs gd hb hr
  obtain ⟨v, rfl, a, vs', rfl, nb, hl, hi⟩ := rdl1 hr
  have il := intsAre hi
  refine call_sum_walkG (wpAny_pyIter_list hl.isList ?_)
  obtain ⟨n, ho⟩ := hl
  have hne : a ≠ s.heap.objs.size := Nat.ne_of_lt (Heap.lt_size ho)
  have W := Walks.list (prog := prg) (w := w) (A := A.in1) hA s.heap.objs.size a hne vs'.toArray
  rw [show vs'.toArray.size = ns.length from List.size_toArray.trans il.length] at W
  refine ⟨_, _, _, _, _, _, fun i => ns.getD i 0, rfl, W, ?_, ?_, ?_, ?_⟩
  · exact ⟨⟨_, Heap.get?_push_size _ rfl, rfl, rfl⟩, ⟨_, Heap.get?_push_of_some _ ho, rfl, n, rfl⟩⟩
  · intro b hb
    rw [Heap.size_push]
    rcases List.mem_cons.mp hb with rfl | hb
    · exact Nat.lt_succ_self _
    · rw [List.mem_singleton.mp hb]; exact Nat.lt_succ_of_lt (Heap.lt_size ho)
  · intro i v hv
    have hv' : vs'[i]? = some v := by simpa using hv
    obtain ⟨d, hd, im⟩ := hi.getV hv'
    simp [dI] at hd
    obtain ⟨x, hx, rfl⟩ := hd
    obtain ⟨t, rfl⟩ := im
    exact ⟨t, by simp [List.getD, hx]⟩
  · intro h' tk t' hk
    refine ⟨kMk fun b ob e => hk b ob ?_ (Heap.get?_push_of_some _ e), _, rfl⟩
    intro hb
    rw [List.mem_singleton.mp hb] at e
    exact absurd (Heap.lt_size e) (Nat.lt_irrefl _)
/-- range(..) -/
theorem ev_range1 {x : Str} {p pos : Pos} {e : Expr} {n : Int} (hv : GV w x (.type "range")) (hk : env.kindOf x = some .globalImplicit) (hs : Evs w A env σ o [e] [.int n]) : EvR w A env σ o (.Call (.Name x p) [e] [] pos) 0 n 1 := by
  refine ⟨fun g s f => ?_⟩
  refine wpAny_Call_Name_kw (Calls.Name_function_global f.fn hk (hv.2 A env s _ _ f.gl f.bl f.gh ?_) hv.1)
  have q := spl (pos := pos) hs g s f
  rw [hs.1] at q ⊢
  refine PyProof.Rows.callWith_type rfl (Calls.evalArgs_plain (wpF q fun vs s₁ q₁ => ?_))
  obtain ⟨v, rfl, t, rfl⟩ := rdl1 q₁.2
  exact call_range_1 ⟨kTrans q₁.1 (kMk fun b ob e => Heap.get?_push_of_some _ e), _, _, _, _, rfl, IsRange.new ..⟩
theorem ev_range2 {x : Str} {p pos : Pos} {e₁ e₂ : Expr} {a b : Int} (hv : GV w x (.type "range")) (hk : env.kindOf x = some .globalImplicit) (hs : Evs w A env σ o [e₁, e₂] [.int a, .int b]) : EvR w A env σ o (.Call (.Name x p) [e₁, e₂] [] pos) a b 1 := by
  refine ⟨fun g s f => ?_⟩
  refine wpAny_Call_Name_kw (Calls.Name_function_global f.fn hk (hv.2 A env s _ _ f.gl f.bl f.gh ?_) hv.1)
  have q := spl (pos := pos) hs g s f
  rw [star_cons hs.1, star_cons hs.2.2.1] at q ⊢
  refine PyProof.Rows.callWith_type rfl (Calls.evalArgs_plain (wpF q fun vs s₁ q₁ => ?_))
  obtain ⟨v, u, rfl, ⟨t, rfl⟩, ⟨t', rfl⟩⟩ := rdl2 q₁.2
  exact call_range_2 ⟨kTrans q₁.1 (kMk fun b ob e => Heap.get?_push_of_some _ e), _, _, _, _, rfl, IsRange.new ..⟩
theorem ev_range3 {x : Str} {p pos : Pos} {e₁ e₂ e₃ : Expr} {a b c : Int} (hv : GV w x (.type "range")) (hk : env.kindOf x = some .globalImplicit) (hs : Evs w A env σ o [e₁, e₂, e₃] [.int a, .int b, .int c]) (hc : c ≠ 0) (hc2 : c.natAbs < 1073741824) : EvR w A env σ o (.Call (.Name x p) [e₁, e₂, e₃] [] pos) a b c := by
  refine ⟨fun g s f => ?_⟩
  refine wpAny_Call_Name_kw (Calls.Name_function_global f.fn hk (hv.2 A env s _ _ f.gl f.bl f.gh ?_) hv.1)
  have q := spl (pos := pos) hs g s f
  rw [star_cons hs.1, star_cons hs.2.2.1, star_cons hs.2.2.2.2.1] at q ⊢
  refine PyProof.Rows.callWith_type rfl (Calls.evalArgs_plain (wpF q fun vs s₁ q₁ => ?_))
  obtain ⟨v, u, x, rfl, ⟨t, rfl⟩, ⟨t', rfl⟩, ⟨t'', rfl⟩⟩ := rdl3 q₁.2
  exact PySem.call_range_3 hc ⟨kTrans q₁.1 (kMk fun b ob e => Heap.get?_push_of_some _ e), _, _, _, _, rfl, IsRange.new ..⟩ (Or.inl (PyProof.noPylong_small hc2))

/-- a slice of a list, its two places read -/
theorem sl_core {v sl : Expr} {ds ds' : List D} {a : Addr} {vs : List Value} {vl vu : Value} {lo hi : Option Int} {s s₂ : Shared} {bd : Addr → Prop} (hb : ∀ a, bd a → ∃ ob, s₂.heap.get? a = some ob) (k2 : Keeps s s₂) (hl : s₂.heap.PlainList a vs.toArray) (hi' : ImL vs ds)
    (pl : IsPart vl lo) (pu : IsPart vu hi) (hz : ds.length ≤ 1000000) (hp : ImL (slicePick vs.toArray lo hi none).toList ds')
    (hs : ∀ x y, subscripted sl false x y = operate [y, x] (getItem x y)) :
    wpAny (model prg w) A (subscriptTail v sl (.ref a) (.ref s₂.heap.objs.size)) (fun v s' => Keeps s s' ∧ Rd bd s'.heap v (.list ds')) (fun _ _ => False) { s₂ with heap := s₂.heap.push { cls := .type "slice", data := .fields #[vl, vu, .none] } } := by
  have hl2 := (hl.isList).push { cls := .type "slice", data := .fields #[vl, vu, .none] }
  have hsz : vs.toArray.size ≤ sizeLine := by rw [List.size_toArray, hi'.length, sizeLine_eq]; omega
  refine tail_any (T := "list") (s := { s₂ with heap := s₂.heap.push { cls := .type "slice", data := .fields #[vl, vu, .none] } }) hl2.typeIs list_getitem_lookup (wpAny_getItem_list_slice hl2 (Heap.IsSliceOf.new ..) pl pu .none (by simp) ?_ hsz) (hs _ _)
  have e1 : ∀ b ob, s₂.heap.get? b = some ob → ((s₂.heap.push { cls := .type "slice", data := .fields #[vl, vu, .none] }).push { cls := .type "list", data := .seq (slicePick vs.toArray lo hi none) }).get? b = some ob := fun b ob e => Heap.get?_push_of_some _ (Heap.get?_push_of_some _ e)
  refine ⟨kTrans k2 (kMk (t := s₂.toks) e1), (s₂.heap.push { cls := .type "slice", data := .fields #[vl, vu, .none] }).objs.size, (slicePick vs.toArray lo hi none).toList, rfl, fun q => ?_, ⟨0, ?_⟩, hp⟩
  · obtain ⟨ob, e⟩ := hb _ q
    have := Heap.lt_size e
    rw [Heap.size_push] at this
    exact absurd (Nat.lt_of_succ_lt this) (Nat.lt_irrefl _)
  · exact Heap.get?_push_size _ rfl
theorem ev_slTo {v e : Expr} {p pos : Pos} {ds : List D} {k : Int} (hv : Ev w A env σ o v (.list ds)) (he : Ev w A env σ o e (.int k)) (h0 : 0 ≤ k) (hz : ds.length ≤ 1000000) : Ev w A env σ o (.Subscript v (.Slice none (some e) none p) pos) (.list (ds.take k.toNat)) := by
  refine ⟨fun g s f => ?_⟩
  refine Subscript_ (wpF (hv.out g s f) fun va s₁ q₁ => ?_)
  have f1 := f.mono (kHeap q₁.1)
  show wpAny _ A (do
    let l ← valueOrNone (evalOpt none env)
    let u ← holding [l] (valueOrNone (evalOpt (some e) env))
    let st ← holding [l, u] (valueOrNone (evalOpt none env))
    newFields "slice" [l, u, st]) _ _ s₁
  refine wpAny_bind (wpAny_pure (wpAny_bind (wpAny_holding (wpF (he.out g s₁ f1) fun vi s₂ q₂ => wpAny_bind (wpAny_holding (wpAny_pure ?_))))))
  obtain ⟨t, rfl⟩ := q₂.2
  have k2 := kTrans q₁.1 q₂.1
  have f2 := f.mono (kHeap k2)
  obtain ⟨a, vs, rfl, nb, hl, hi⟩ := q₁.2.mono (kHeap q₂.1)
  refine wpAny_newObj_type (sl_core (fun a b => f2.badIn b) k2 hl hi .none (.int k t) hz ?_ (fun _ _ => rfl))
  have ey : k = (k.toNat : Int) := by omega
  rw [ey, slicePick_upto' vs.toArray k.toNat]
  simpa [← ey] using hi.take k.toNat
theorem ev_slFT {v e₁ e₂ : Expr} {p pos : Pos} {ds : List D} {a b : Int} (hv : Ev w A env σ o v (.list ds)) (h₁ : Ev w A env σ o e₁ (.int a)) (h₂ : Ev w A env σ o e₂ (.int b)) (h0 : 0 ≤ a) (h1 : a ≤ b) (hz : ds.length ≤ 1000000) :
    Ev w A env σ o (.Subscript v (.Slice (some e₁) (some e₂) none p) pos) (.list ((ds.drop a.toNat).take (b - a).toNat)) := by
  refine ⟨fun g s f => ?_⟩
  refine Subscript_ (wpF (hv.out g s f) fun va s₁ q₁ => ?_)
  have f1 := f.mono (kHeap q₁.1)
  show wpAny _ A (do
    let l ← valueOrNone (evalOpt (some e₁) env)
    let u ← holding [l] (valueOrNone (evalOpt (some e₂) env))
    let st ← holding [l, u] (valueOrNone (evalOpt none env))
    newFields "slice" [l, u, st]) _ _ s₁
  refine wpAny_bind (wpF (h₁.out g s₁ f1) fun vl s₂ q₂ => wpAny_bind (wpAny_holding (wpF (h₂.out g s₂ (f1.mono (kHeap q₂.1))) fun vi s₃ q₃ => wpAny_bind (wpAny_holding (wpAny_pure ?_)))))
  obtain ⟨t, rfl⟩ := q₂.2
  obtain ⟨t', rfl⟩ := q₃.2
  have k2 := kTrans q₁.1 (kTrans q₂.1 q₃.1)
  have f2 := f.mono (kHeap k2)
  obtain ⟨ad, vs, rfl, nb, hl, hi⟩ := q₁.2.mono (kHeap (kTrans q₂.1 q₃.1))
  refine wpAny_newObj_type (sl_core (fun a b => f2.badIn b) k2 hl hi (.int a t) (.int b t') hz ?_ (fun _ _ => rfl))
  rw [slicePick_plain]
  simp only [Option.elim, List.size_toArray]
  have ha := clipAt_min (n := vs.length) h0
  have hb := clipAt_min (n := vs.length) (y := b) (by omega)
  have key : ((vs.drop (clipAt vs.length a)).take (clipAt vs.length b - clipAt vs.length a)) = (vs.drop a.toNat).take (b - a).toNat := by
    by_cases hca : (vs.length : Int) < a
    · rw [if_pos hca] at ha
      have e1 : clipAt vs.length a = vs.length := by omega
      rw [e1, List.drop_length, List.drop_eq_nil_of_le (by omega)]
      simp
    · rw [if_neg hca] at ha
      have e1 : clipAt vs.length a = a.toNat := by omega
      rw [e1]
      apply List.ext_getElem?
      intro i
      rw [List.getElem?_take, List.getElem?_take]
      by_cases hcb : (vs.length : Int) < b
      · rw [if_pos hcb] at hb
        have e2 : clipAt vs.length b = vs.length := by omega
        rw [e2]
        by_cases h3 : i < vs.length - a.toNat
        · rw [if_pos h3, if_pos (by omega)]
        · rw [if_neg h3]
          split
          · rw [List.getElem?_drop, List.getElem?_eq_none (by omega)]
          · rfl
      · rw [if_neg hcb] at hb
        have e2 : clipAt vs.length b - a.toNat = (b - a).toNat := by omega
        rw [e2]
  simp only [key]
  exact (hi.drop _).take _
end
end Mine
end
section
open PySem PySem.W PyProof.Rows
set_option Elab.async false
set_option maxRecDepth 100000
set_option linter.unusedVariables false
namespace Mine
theorem or_disj {x b : Int} (k : Nat) (hx : 0 ≤ x) (hb : 0 ≤ b) (hk : b < 2 ^ k) : Builtin.bitOr (x * 2 ^ k) b = x * 2 ^ k + b := by
  rw [bitOr_and]
  have h0 : 0 ≤ x * 2 ^ k := Int.mul_nonneg hx (Int.le_of_lt (Int.pow_pos (by decide)))
  rw [bitAnd_pp h0 hb]
  have e1 : (x * 2 ^ k).toNat = 2 ^ k * x.toNat := by
    obtain ⟨n, rfl⟩ := Int.eq_ofNat_of_zero_le hx
    have : ((n : Int) * 2 ^ k) = ((2 ^ k * n : Nat) : Int) := by
      rw [Int.natCast_mul, Int.natCast_pow, Int.mul_comm]; rfl
    rw [this]; rfl
  have hb' : b.toNat < 2 ^ k := by
    have : (b.toNat : Int) < ((2 ^ k : Nat) : Int) := by rw [Int.toNat_of_nonneg hb, Int.natCast_pow]; exact hk
    exact_mod_cast this
  have : (x * 2 ^ k).toNat &&& b.toNat = 0 := by
    rw [e1]
    apply Nat.eq_of_testBit_eq
    intro i
    rw [Nat.testBit_and, Nat.testBit_two_pow_mul, Nat.zero_testBit]
    by_cases hi : i ≥ k
    · rw [Nat.testBit_lt_two_pow (x := b.toNat) (Nat.lt_of_lt_of_le hb' (Nat.pow_le_pow_right (by decide) hi))]
      simp
    · simp [hi]
  rw [this]; simp
section
variable {w : World} {A : Around} {env : Env} {σ σ' : St} {o : Own} {P : Post}
/-- the ways of a statement meet -/
theorem ex_join {st : Stmt} {rest : List Stmt} (J : St → Own → Prop) (h : Ex1 w A env σ o st (fun fl σ o => fl = .next ∧ J σ o)) (k : ∀ σ o, J σ o → Ex w A env σ o rest P) : Ex w A env σ o (st :: rest) P :=
  ex_cons (ex1_mono h fun fl σ o ⟨e, j⟩ => by subst e; exact k σ o j)
/-- a call with one keyword -/
structure CalK (w : World) (A : Around) (f : Value) (ds : List D) (k : Str) (e : D) (r : D) : Prop where
  out : ∀ (bd : Addr → Prop) (s : Shared) (vs : List Value) (u : Value), Gd w s.heap → (∀ a, bd a → ∃ ob, s.heap.get? a = some ob) → RdL bd s.heap vs ds → Rd bd s.heap u e →
    wpAny (model prg w) A (call f vs [(k, u)]) (fun v s' => Keeps s s' ∧ Rd bd s'.heap v r) (fun _ _ => False) s
theorem ev_callFK {x k : Str} {p pos pk : Pos} {a : Addr} {ob : Obj} {fd : FuncData} {e ek : Expr} {d dk r : D} (hv : GV w x (.ref a)) (hk : env.kindOf x = some .globalImplicit)
    (ho : (KK w).lookup a = some ob) (hd : ob.data = .func fd) (hs : Evs w A env σ o [e] [d]) (he : Ev w A env σ o ek dk) (hc : CalK w A (.ref a) [d] k dk r) : Ev w A env σ o (.Call (.Name x p) [e] [⟨some k, ek, pk⟩] pos) r := by
  refine ⟨fun g s f => ?_⟩
  refine wpAny_Call_Name_kw (Calls.Name_function_global f.fn hk (hv.2 A env s _ _ f.gl f.bl f.gh ?_) hv.1)
  have q := spl (pos := pos) hs g s f
  refine callWith_function_kw (o := ob) (fd := fd) ?_
  rw [hs.1] at q ⊢
  refine evalArgs_kw rfl (wpF q fun vs s' q' => ?_)
  have f1 := f.mono (kHeap q'.1)
  show wpAny _ A (evalAll [do let v ← eval ek env; standAt pos; pure v]) _ _ s'
  refine wpAny_evalAll_cons (wpAny_bind (wpF (he.out g s' f1) fun u s₂ q₂ => wpAny_bind (wpAny_standAt (wpAny_pure (wpAny_evalAll_nil ?_)))))
  have k2 := kTrans q'.1 q₂.1
  refine ⟨⟨(f.gh.mono (kHeap k2)).k _ _ ho, hd⟩, ?_⟩
  exact wpF (hc.out _ s₂ vs u (f.gh.mono (kHeap k2)) (fun a b => (f.mono (kHeap k2)).badIn b) (q'.2.mono (kHeap q₂.1)) q₂.2) fun v s₃ q₃ => ⟨kTrans k2 q₃.1, q₃.2⟩
/-- a def of one place and one keyword -/
theorem calK_val {f : Addr} {fd : FuncData} {body : List Stmt} {x k : Str} {d e r : D} (F : Fd w f fd body [x, k]) (hA : Ok 1 A)
    (hb : ∀ (s : Shared) (v u : Value), Gd w s.heap → BindsTo s fd ⟨[v], [(k, u)]⟩ [(x, v), (k, u)]) (hr : isIm r = true)
    (h : ∀ env, Kd env fd.scope.names → Ex w (A.deeper env) env [(x, d), (k, e)] none body (fun fl _ _ => fl = .ret r)) : CalK w A (.ref f) [d] k e r := by
  constructor; intro bd s vs u gd hbd rd ru
  obtain ⟨oc, od, osl, ho⟩ := F.ho
  obtain ⟨v, rfl, rv⟩ := rdl1 rd
  refine wpAny_call (codeAny_call_def (by have := hA.dep; omega) (gd.k _ _ ho) rfl gd.lim (codeRec_of gd.k F.hcd) F.hbody (hb s v u gd) F.hcell (fun p hp => ?_) (fun h₀ hns hk => ?_) F.hco F.hgen F.hk)
  · rcases List.mem_cons.mp hp with rfl | hp
    · exact F.hloc _ (.head _)
    · rw [List.mem_singleton.mp hp]; exact F.hloc _ (.tail _ (.head _))
  · refine wpF ((h (callEnv fd s.heap.objs.size f) ⟨fun _ => rfl⟩).out s.heap _ (F.frame (vs := [v, u]) (ds := [d, e]) gd ⟨rv, ru, trivial⟩ rfl hns hk)) fun fl s' q => ?_
    obtain ⟨fl', σ', o', rfl, ⟨h', tk, rfl⟩, f', v, rfl, r'⟩ := q
    exact ⟨kMk f'.keep, Rd.ofIm (r'.im hr)⟩
end
end Mine
end
section
open PySem PySem.W PyProof.Rows
set_option Elab.async false
set_option maxRecDepth 100000
set_option linter.unusedVariables false
namespace Mine
section
variable {w : World} {A : Around} {env : Env} {σ σ' : St} {o : Own} {P : Post}
/-- a method of a plain value, one argument -/
structure Mt (a : D) (T : String) (name : Str) (id : String) : Prop where
  im : isIm a = true
  ty : ∀ (s : Shared) v, Im v a → s.TypeIs v T ∧ ∀ ad, v ≠ .ref ad
  pa : PlainAttrs T
  slot : Slot T name id
  md : typeOf (.builtin id) = pure (.type "method_descriptor")
theorem mt_str {x : Str} {name : Str} {id : String} (slot : Slot "str" name id) (md : typeOf (.builtin id) = pure (.type "method_descriptor")) : Mt (.str x) "str" name id :=
  ⟨rfl, (by rintro s _ ⟨t, rfl⟩; exact ⟨typeIs_str _ _ _, fun _ e => nomatch e⟩), F.plainAttrs_str, slot, md⟩
theorem mt_byt {x : Array UInt8} {name : Str} {id : String} (slot : Slot "bytes" name id) (md : typeOf (.builtin id) = pure (.type "method_descriptor")) : Mt (.byt x) "bytes" name id :=
  ⟨rfl, (by rintro s _ ⟨t, rfl⟩; exact ⟨typeIs_bytes _ _ _, fun _ e => nomatch e⟩), FB.plainAttrs_bytes, slot, md⟩
theorem ev_meth1 {ob e : Expr} {name : Str} {apos pos : Pos} {T id : String} {a b r : D} (M : Mt a T name id) (ho : Ev w A env σ o ob a) (he : Ev w A env σ o e b) (hc : Cal w A (.builtin id) [a, b] r)
    (hs : starEach [e] env = [(false, eval e env)]) (hbase : attributeBase ob name env (eval ob env) = eval ob env) (hline : (apos.endLine == pos.line) = true) : Ev w A env σ o (.Call (.Attribute ob name apos) [e] [] pos) r := by
  refine ⟨fun g s f => Call_method1 hbase hs hline (wpF (ho.out g s f) fun ov s₁ q₁ => ?_)⟩
  have iv := q₁.2.im M.im
  obtain ⟨t1, t2⟩ := M.ty s₁ ov iv
  refine ⟨T, id, M.pa, M.slot, M.md, t1, fun ad e => absurd e (t2 ad), ?_⟩
  refine Calls.callWith_builtin rfl (Calls.evalArgs_plain (Calls.spliced_cons (wpF (he.out g s₁ (f.mono (kHeap q₁.1))) fun v s₂ q₂ => Calls.spliced_nil ?_)))
  have k := kTrans q₁.1 q₂.1
  exact wpF (hc.out (bad env o) s₂ [ov, v] (f.gh.mono (kHeap k)) (fun a b => (f.mono (kHeap k)).badIn b) ⟨q₁.2.mono (kHeap q₂.1), q₂.2, trivial⟩) fun v s₃ q₃ => ⟨kTrans k q₃.1, q₃.2⟩
theorem cl_find {x y : Str} : Cal w A (.builtin "str.find") [.str x, .str y] (.int (Txt.find x y)) := by
  constructor; rintro bd s vs gd hb hr
  obtain ⟨v, u, rfl, ⟨t, rfl⟩, ⟨t', rfl⟩⟩ := rdl2 hr
  exact SC.find ⟨kToks, _, rfl⟩
theorem cl_stripC {x y : Str} (hz : x.length ≤ sizeLine) : Cal w A (.builtin "str.strip") [.str x, .str y] (.str (Txt.stripChars x y)) := by
  constructor; rintro bd s vs gd hb hr
  obtain ⟨v, u, rfl, ⟨t, rfl⟩, ⟨t', rfl⟩⟩ := rdl2 hr
  exact SC.stripChars (fun t k => ⟨kToks, _, rfl⟩) hz
theorem strsAre : ∀ {vs : List Value} {ss : List Str}, ImL vs (dS ss) → StrsAre vs ss
  | [], [], _ => .nil
  | v :: vs, n :: ns, h => by
    obtain ⟨⟨t, rfl⟩, h2⟩ := h
    exact .cons n t (strsAre h2)
  | [], _ :: _, h => h.elim
  | _ :: _, [], h => h.elim
theorem cl_join {x : Str} {ss : List Str} (hx : x.length ≤ 16) (hw : (ss.map (·.length)).sum + ss.length ≤ 1048576) : Cal w A (.builtin "str.join") [.str x, .list (dS ss)] (.str (Txt.join x ss)) := by
  constructor; rintro bd s vs gd hb hr
  obtain ⟨v, u, rfl, ⟨t, rfl⟩, ⟨a, vs', rfl, nb, hl, hi⟩⟩ := rdl2 hr
  exact join_listW hl.isList (strsAre hi) hx hw fun t' k => ⟨kToks, _, rfl⟩
theorem b_muls {a : Str} {n : Int} (ha : a.length ≤ 16) (h0 : 0 ≤ n) (hn : n ≤ 1048576) : Bin w A .Mult (.str a) (.int n) (.str (Txt.mul a n)) := by
  constructor; rintro s _ _ ⟨t, rfl⟩ ⟨u, rfl⟩
  exact SB.mul (mulOk_of 16 1048576 ha (by omega) (by omega) (by decide) (by decide)) fun t k => ⟨kToks, _, rfl⟩
end
end Mine
end
section
open PySem PySem.W PyProof.Rows
set_option Elab.async false
set_option maxRecDepth 100000
set_option linter.unusedVariables false
namespace Mine
section
open Sem (wp)
open AutoSeq1 (wpAny_loadPart')
variable {prog : Program} {w : World} {A : Around} {E : Value → Shared → Prop} {s : Shared}
theorem nextOf_tup_item {it t : Addr} {i : Nat} {items : Array Value} {x : Value} {Q : Value → Shared → Prop} (hit : s.heap.IsTupleIter it t i)
    (ht : s.heap.IsTuple t items) (hx : items[i]? = some x)
    (hQ : ∀ h', h'.IsTupleIter it t (i + 1) → Heap.SameBut it s.heap h' → Q x { s with heap := h' }) :
    wpAny (model prog w) A (Builtin.SmallTypes.nextOf (.ref it)) Q E s := by
  obtain ⟨o, ho, hc, hd⟩ := id hit
  obtain ⟨ol, hol, _, nl, hdl⟩ := ht
  unfold Builtin.SmallTypes.nextOf
  refine wpAny_bind (wpAny_callSpecial?_slot (name := Str.ofString "__next__") hit.typeIs F.slot_tuple_iterator_next
    (wpAny_call_entry F.slot_tuple_iterator_next hit.typeIs F.entry_tuple_iterator_next ?_ (F.args_tuple_iterator_next_1 _)))
  show wpAny _ _ (field (.ref it) 0 >>= _) _ _ s
  refine wpAny_bind (wpAny_field ho hd (x := .ref t) rfl ?_)
  show wpAny _ _ (if (Value.ref t == Value.none) = true then _ else _) _ _ s
  rw [if_neg (show ¬ ((Value.ref t == Value.none) = true) from Bool.false_ne_true)]
  show wpAny _ _ (field (.ref it) 1 >>= _) _ _ s
  refine wpAny_bind (wpAny_field ho hd (x := .int i 0) rfl ?_)
  show wpAny _ _ (seqItems? (.ref t) >>= _) _ _ s
  refine wpAny_bind (wpAny_seqItems hol hdl ?_)
  simp only [Int.toNat_natCast, hx]
  refine wpAny_bind (wpAny_setField ho hd (by simp) (wpAny_pure ⟨x, rfl, wpAny_pure (hQ _ ?_ (Heap.SameBut.update ..))⟩))
  exact ⟨_, Heap.get?_update_self _ ho (Obj.isFreed_of_fields (Obj.data_mapFields hd _)), (Obj.cls_mapFields ..).trans hc, by
    rw [Obj.data_mapFields hd]; simp [rawInt]⟩
theorem nextOf_tup_end {it t : Addr} {i : Nat} {items : Array Value} {Q : Value → Shared → Prop} (hh : A.handled = none)
    (hit : s.heap.IsTupleIter it t i) (ht : s.heap.IsTuple t items) (hx : items[i]? = none)
    (hE : ∀ h' e, Heap.ExtBut it s.heap h' → (∃ o, h'.get? e = some o ∧ o.cls = .type "StopIteration") → E (.ref e) { s with heap := h' }) :
    wpAny (model prog w) A (Builtin.SmallTypes.nextOf (.ref it)) Q E s := by
  obtain ⟨o, ho, hc, hd⟩ := id hit
  obtain ⟨ol, hol, _, nl, hdl⟩ := ht
  unfold Builtin.SmallTypes.nextOf
  refine wpAny_bind (wpAny_callSpecial?_slot (name := Str.ofString "__next__") hit.typeIs F.slot_tuple_iterator_next
    (wpAny_call_entry F.slot_tuple_iterator_next hit.typeIs F.entry_tuple_iterator_next ?_ (F.args_tuple_iterator_next_1 _)))
  show wpAny _ _ (field (.ref it) 0 >>= _) _ _ s
  refine wpAny_bind (wpAny_field ho hd (x := .ref t) rfl ?_)
  show wpAny _ _ (if (Value.ref t == Value.none) = true then _ else _) _ _ s
  rw [if_neg (show ¬ ((Value.ref t == Value.none) = true) from Bool.false_ne_true)]
  show wpAny _ _ (field (.ref it) 1 >>= _) _ _ s
  refine wpAny_bind (wpAny_field ho hd (x := .int i 0) rfl ?_)
  show wpAny _ _ (seqItems? (.ref t) >>= _) _ _ s
  refine wpAny_bind (wpAny_seqItems hol hdl ?_)
  simp only [Int.toNat_natCast, hx]
  refine wpAny_bind (wpAny_rule (wpAny_bind (wpAny_setField ho hd (by simp) ?_)))
  show wpAny _ _ (newExc (.type "StopIteration") [] >>= _) _ _ _
  refine wpAny_bind ?_
  simp only [newExc, newTuple]
  refine wpAny_bind (wpAny_newObj_type ?_ (by size_fits))
  refine wpAny_bind (m := firstArgMember _ _) (wpAny_of_eq (a := Value.none) (by first | rfl | (simp only [firstArgMember]; rfl)) ?_)
  refine wpAny_newObj_type ?_ (by size_fits)
  simp only [raiseNew]
  refine wpAny_bind (wpAny_handled ?_)
  first | rw [show A.in1.handled = none from hh] | rw [hh]
  refine wpAny_bind (wpAny_pure (wpAny_throw ?_))
  exact hE _ _ (((Heap.SameBut.update ..).extBut.push _).push _) ⟨_, Heap.get?_push_size _ rfl, rfl⟩
end
theorem tIterAt {h h' : Heap} {a t : Addr} {i : Nat} (x : h.IsTupleIter a t i) (e : ∀ o, h.get? a = some o → h'.get? a = some o) : h'.IsTupleIter a t i := let ⟨o, ho, r⟩ := x; ⟨o, e _ ho, r⟩
theorem tupAt {h h' : Heap} {a : Addr} {its : Array Value} (x : h.IsTuple a its) (e : ∀ o, h.get? a = some o → h'.get? a = some o) : h'.IsTuple a its := let ⟨o, ho, r⟩ := x; ⟨o, e _ ho, r⟩
theorem drawsTup {prog : Program} {w : World} {A : Around} (hh : A.handled = none) (it l : Addr) (hne : l ≠ it) (items : Array Value) :
    Draws prog w A it [it, l] items.size (fun i v => items[i]? = some v) (fun i h => h.IsTupleIter it l i ∧ h.IsTuple l items) where
  live := fun _ _ st => let ⟨o, ho, _⟩ := st.1; ⟨o, ho⟩
  frame := fun _ _ _ st hk => ⟨tIterAt st.1 fun o e => hk it (by simp) o e, tupAt st.2 fun o e => hk l (by simp) o e⟩
  item := fun i s Q E hi st hQ => by
    refine nextOf_tup_item st.1 st.2 (x := items[i]) (by simp [hi]) fun h' hit' hs' => ?_
    exact hQ _ h' s.toks (by simp [hi]) ⟨hit', st.2.extBut hs'.extBut hne⟩ hs'
  done := fun s Q E st hE => nextOf_tup_end hh st.1 st.2 (by simp) hE
section
open Sem (wp)
open AutoSeq1 (wpAny_loadPart')
theorem meets_enumT (l : Addr) (items : Array Value) (n : Nat) (dct : Option Addr) (sl : Array (Option Value)) :
    Meets (Builtin.«enumerate.__new__» ⟨[.type "enumerate", .ref l], []⟩) (fun _ R s => s.heap.get? l = some { cls := .type "tuple", dict := dct, data := .seq items n, slots := sl } ∧
      R (.ok (.ret (.ref (s.heap.push { cls := .type "tuple_iterator", data := .fields #[.ref l, .int 0 0] }).objs.size)))
        { s with heap := (s.heap.push { cls := .type "tuple_iterator", data := .fields #[.ref l, .int 0 0] }).push { cls := .type "enumerate", data := .fields #[.none, .bool false, .ref s.heap.objs.size, rawInt 0, .none, .none] } }) :=
  .of_wp fun prog w A R s h => by
    obtain ⟨hp, g, d, tk, os⟩ := s; obtain ⟨hl, h⟩ := h
    have hsub := sub_enumerate
    have hL : Heap.IsTuple (Shared.heap ⟨hp, g, d, tk, os⟩) l items := ⟨_, hl, rfl, n, rfl⟩
    wp_walk using wpAny_loadPart' hl
    refine wpAny_stack_any fun st => wpAny_pure ?_
    split
    · rename_i c _ _ _ _ _
      cases (c == Value.type "enumerate")
      · wp_walk using wpAny_loadPart' hl, wpAny_pyIter_tuple hL
        exact ⟨_, rfl, h⟩
      · wp_walk using wpAny_loadPart' hl, wpAny_pyIter_tuple hL
        exact ⟨_, rfl, h⟩
    · wp_walk using wpAny_loadPart' hl, wpAny_pyIter_tuple hL
      exact ⟨_, rfl, h⟩
theorem call_enumT {prog : Program} {w : World} {A : Around} {E : Value → Shared → Prop} {s : Shared} {l : Addr} {items : Array Value} {Q : Value → Shared → Prop} (hL : s.heap.IsTuple l items)
    (h : ∀ h', IsEnum h' (s.heap.objs.size + 1) s.heap.objs.size 0 .none → h'.IsTupleIter s.heap.objs.size l 0 → h'.objs.size = s.heap.objs.size + 2 →
      (∀ b o, s.heap.get? b = some o → h'.get? b = some o) → Q (.ref (s.heap.objs.size + 1)) { s with heap := h' }) :
    wpAny (model prog w) A (call (.type "enumerate") [.ref l]) Q E s := by
  obtain ⟨⟨c, dct, dt, sl⟩, hl, hc, n, hd⟩ := hL
  replace hc : c = .type "tuple" := hc
  replace hd : dt = .seq items n := hd
  subst hc hd
  refine callType_new F.called_enumerate (by decide) (F.typeCall_enumerate_1 _) (F.newCall_enumerate_1 _) (fun obj => F.args_object_init_2 obj _) F.entry_enumerate_new
    (meets_enumT l items n dct sl) ⟨hl, ?_⟩
  have hz : (s.heap.push { cls := .type "tuple_iterator", data := .fields #[.ref l, .int 0 0] }).objs.size = s.heap.objs.size + 1 := Heap.size_push ..
  show _ ∧ _
  rw [hz]
  have he : IsEnum ((s.heap.push { cls := .type "tuple_iterator", data := .fields #[.ref l, .int 0 0] }).push
      { cls := .type "enumerate", data := .fields #[.none, .bool false, .ref s.heap.objs.size, rawInt 0, .none, .none] }) (s.heap.objs.size + 1) s.heap.objs.size 0 .none := by
    have := Heap.get?_push_size (s.heap.push { cls := .type "tuple_iterator", data := .fields #[.ref l, .int 0 0] })
      (o := { cls := .type "enumerate", data := .fields #[.none, .bool false, .ref s.heap.objs.size, rawInt 0, .none, .none] }) rfl
    rw [hz] at this; exact this
  refine ⟨⟨_, he, rfl⟩, h _ he ⟨_, Heap.get?_push_of_some _ (Heap.get?_push_size _ rfl), rfl, rfl⟩ (by rw [Heap.size_push, hz]) fun b o x => Heap.get?_push_of_some _ (Heap.get?_push_of_some _ x)⟩
end
theorem letGo_tup {prog : Program} {w : World} {A : Around} {E : Value → Shared → Prop} {s : Shared} {elts : List Expr} {x1 : Nat} {pos : Pos} {I l T : Addr} {i : Nat} {Q : Unit → Shared → Prop} (hit : s.heap.IsTupleIter I l i) (hQ : Q () s) :
    wpAny (model prog w) A (letOwnedTupleGo (.Tuple elts x1 pos) (.ref I) (.ref T)) Q E s := by
  obtain ⟨o, ho, hc, hd⟩ := hit
  unfold letOwnedTupleGo
  refine wpAny_bind (wpAny_load ho ?_)
  rw [hc, hd]
  show wpAny _ A (if (["enumerate", "zip", "dict_itemiterator", "dict_reverseitemiterator", "odict_iterator", "itertools.zip_longest", "itertools.pairwise"].contains "tuple_iterator" &&
      (#[.ref l, .int i 0] : Array Value)[0]? == some (rawInt T)) = true then _ else _) Q E s
  rw [if_neg (by
    intro h
    rw [show (["enumerate", "zip", "dict_itemiterator", "dict_reverseitemiterator", "odict_iterator", "itertools.zip_longest", "itertools.pairwise"].contains "tuple_iterator") = false from by decide, Bool.false_and] at h
    cases h)]
  exact wpAny_pure hQ
theorem tupOfTups {prog : Program} {w : World} {A : Around} (hh : A.handled = none) (I ax : Addr) (hne : ax ≠ I) (items : Array Value) (Ts : Nat → Addr) (vals : Nat → Array Value)
    (hit : ∀ j, j < items.size → items[j]? = some (.ref (Ts j))) (hTI : ∀ j, j < items.size → Ts j ≠ I) :
    WalksU prog w A I (I :: ax :: (List.range items.size).map Ts) [I] items.size (fun j v => v = vals j)
      (fun j h => h.IsTupleIter I ax j ∧ h.IsTuple ax items ∧ ∀ k, k < items.size → h.IsTuple (Ts k) (vals k))
      (fun j T h => (j < items.size ∧ T = Ts j) ∧ h.IsTupleIter I ax (j + 1) ∧ h.IsTuple ax items ∧ ∀ k, k < items.size → h.IsTuple (Ts k) (vals k)) where
  sub := fun b hb => by simp at hb; simp [hb]
  frame := fun _ _ _ st hk => ⟨tIterAt st.1 fun o e => hk I (by simp) o e, tupAt st.2.1 fun o e => hk ax (by simp) o e,
    fun k hk' => tupAt (st.2.2 k hk') fun o e => hk (Ts k) (List.mem_cons_of_mem _ (List.mem_cons_of_mem _ (List.mem_map.mpr ⟨k, List.mem_range.mpr hk', rfl⟩))) o e⟩
  item := fun i s Q E hi st hQ => by
    refine wpAny_pyNext_tuple_item st.1 st.2.1 (x := .ref (Ts i)) (hit i hi) fun h' hit' hs' => ?_
    have tup : ∀ k, k < items.size → h'.IsTuple (Ts k) (vals k) := fun k hk' => (st.2.2 k hk').extBut hs'.extBut (hTI k hk')
    exact hQ (Ts i) (vals i) h' s.toks rfl (tup i hi) ⟨⟨hi, rfl⟩, hit', st.2.1.extBut hs'.extBut hne, tup⟩ fun b o hb e => hs'.extBut b o (fun h => hb (by simp [h])) e
  go := fun _ _ _ _ _ s Q _ hm hQ => letGo_tup hm.2.1 (hQ s.heap hm.2 fun _ _ _ e => e)
  apart := fun j T _ hm hmem => by
    rcases List.mem_cons.mp hmem with e | e
    · exact hTI j hm.1.1 (hm.1.2 ▸ e)
    · cases e
  done := fun s Q E st hQ => wpAny_pyNext_tuple_end hh st.1 st.2.1 (by simp) fun h' he' => hQ h' s.toks fun b o hb e => he' b o (fun h => hb (by simp [h])) e
  self := fun _ s _ _ st hQ => by
    obtain ⟨o, ho, hc, hd⟩ := st.1
    exact wpAny_pyIter_slot (T := "tuple_iterator") ⟨o, ho, hc⟩ F.slot_tuple_iterator_iter (wpAny_call_entry F.slot_tuple_iterator_iter ⟨o, ho, hc⟩ F.entry_tuple_iterator_iter (wpAny_pure ⟨_, rfl, "tuple_iterator", _, ⟨o, ho, hc⟩, F.slot_tuple_iterator_next.lookup, hQ⟩) (F.args_tuple_iterator_iter_1 _))
end Mine
end
section
open PySem PySem.W PyProof.Rows
set_option Elab.async false
set_option maxRecDepth 100000
set_option linter.unusedVariables false
namespace Mine
section
variable {w : World} {A : Around} {env : Env} {σ σ' : St} {o : Own} {P : Post}
structure Wk2 (w : World) (A : Around) (I : Addr) (ds : List (D × D)) (fp wr : List Addr) (PV : Nat → Array Value → Prop) (S : Nat → Heap → Prop) (Mid : Nat → Addr → Heap → Prop) : Prop where
  walk : WalksU prg w A I fp wr ds.length PV S Mid
  im : ∀ i vals, i < ds.length → PV i vals → ∃ d e v u, ds[i]? = some (d, e) ∧ vals = #[v, u] ∧ Im v d ∧ Im u e
  cls : ∀ i h, S i h → ∀ b ∈ wr, ∃ ob, h.get? b = some ob ∧ ob.cls ≠ .type "list"
  clsM : ∀ i T h, Mid i T h → ∀ b ∈ wr, ∃ ob, h.get? b = some ob ∧ ob.cls ≠ .type "list"
  exs : ∀ i h, S i h → ∀ b ∈ fp, ∃ ob, h.get? b = some ob
/-- an iterable gives pairs -/
structure ItrP (w : World) (A : Around) (env : Env) (σ : St) (o : Own) (e : Expr) (ds : List (D × D)) : Prop where
  out : ∀ g s, Fm w env σ o g s.heap → wpAny (model prg w) A (eval e env) (fun x s₁ => wpAny (model prg w) A (pyIter x) (fun it s₂ => Keeps s s₂ ∧ ∃ I fp wr PV S Mid, it = .ref I ∧ Wk2 w A I ds fp wr PV S Mid ∧ S 0 s₂.heap ∧
    (∀ b ∈ wr, s.heap.get? b = none) ∧ (∀ b ∈ fp, ¬ bad env o b)) (fun _ _ => False) s₁) (fun _ _ => False) s
noncomputable def FTurn2 (w : World) (A : Around) (env : Env) (x y : Str) (body : List Stmt) (d e : D) (σ : St) (o : Own) (P : Post) (rest : St → Own → Prop) : Prop :=
  ∃ σ₁ σ₂, Kq x σ σ₁ ∧ Kq y ((x, d) :: σ₁) σ₂ ∧ OwnNot o x ∧ OwnNot o y ∧ Ex w A env ((y, e) :: σ₂) o body (fun fl σ₂ o₂ => match fl with
    | .next | .cont => rest σ₂ o₂
    | .brk => P .next σ₂ o₂
    | fl => P fl σ₂ o₂)
noncomputable def ForL2 (w : World) (A : Around) (env : Env) (x y : Str) (body orelse : List Stmt) (P : Post) : List (D × D) → St → Own → Prop
  | [], σ, o => Ex w A env σ o orelse P
  | d :: ds, σ, o => FTurn2 w A env x y body d.1 d.2 σ o P (ForL2 w A env x y body orelse P ds)

theorem ex_for2 {x y : Str} {px py pt pos : Pos} {kk : Nat} {iter : Expr} {body orelse : List Stmt} {ds : List (D × D)} (hi : ItrP w A env σ o iter ds) (hA : A.handled = none) (hk : env.kindOf x = some .local) (hd : dbg x) (hk2 : env.kindOf y = some .local) (hd2 : dbg y)
    (hs : ∀ v, foldedSetIterable iter env v = pure v) (h : ForL2 w A env x y body orelse P ds σ o) : Ex1 w A env σ o (.For (.Tuple [.Name x px, .Name y py] kk pt) iter body orelse pos) P := by
  refine ⟨fun g s f => ?_⟩
  refine wpAny_For (wpF (hi.out g s f) fun v s₁ h₁ => wpF h₁ fun it s₂ h₂ => ?_) hs
  obtain ⟨k₂, I, fp, wr, PV, S, Mid, rfl, W, S0, hwr, hfp⟩ := h₂
  have ng : ∀ b ∈ wr, g.get? b = none := fun b hb => by
    cases q : g.get? b with
    | none => rfl
    | some ob => have := f.keep b ob q; rw [hwr b hb] at this; cases this
  refine codeAny_forLoop_any
    (fun k s' => ∃ i σ o, i ≤ ds.length ∧ k = ds.length + 1 - i ∧ ForL2 w A env x y body orelse P (ds.drop i) σ o ∧ Fm w env σ o g s'.heap ∧ S i s'.heap ∧ (∃ h' tk, s' = { s with heap := h', toks := tk }) ∧ (∀ b ∈ fp, ¬ bad env o b)) ?_ (ds.length + 1)
    ⟨0, σ, o, Nat.zero_le _, rfl, h, f.mono (kHeap k₂), S0, kSh k₂, hfp⟩
  rintro k s' ⟨i, σ, o, hin, rfl, hF, f', Si, ⟨hh, tk, rfl⟩, hfp⟩
  have wsub := W.walk.sub
  by_cases hlt : i < ds.length
  · refine W.walk.item i _ _ _ hlt Si fun T vals h' tk' hPv hT hMid hkp => ?_
    obtain ⟨d, e, v, u, hd', rfl, imv, imu⟩ := W.im i vals hlt hPv
    have f1 : Fm w env σ o g h' := f'.but hkp ng (fun b hb => hfp b (wsub b hb)) (W.cls i _ Si)
    have hdrop : ds.drop i = (d, e) :: ds.drop (i + 1) := by
      rw [List.drop_eq_getElem_cons hlt]
      rw [List.getElem?_eq_getElem hlt] at hd'
      rw [Option.some.inj hd']
    rw [hdrop] at hF
    obtain ⟨σ₁, σ₂, kp1, kp2, hon1, hon2, hX⟩ := hF
    refine W.walk.go _ _ _ i T _ _ _ hMid fun h₂ St₂ hkp₂ => ?_
    have f2 : Fm w env σ o g h₂ := f1.but hkp₂ ng (fun b hb => hfp b (wsub b hb)) (W.clsM i T _ hMid)
    have hT₂ : h₂.IsTuple T #[v, u] := tupAt hT fun ob e => hkp₂ T ob (W.walk.apart i T _ hMid) e
    refine wpAny_assign_Tuple (s := { s with heap := h₂, toks := tk' }) hA hT₂ rfl rfl fun h₃ hx₃ => ?_
    have keep₃ : ∀ b ob, h₂.get? b = some ob → h₃.get? b = some ob := fun b ob e => hx₃ b ob (Nat.ne_of_lt (Heap.lt_size e)) e
    have f3 := f2.mono keep₃
    have S3 : S (i + 1) h₃ := W.walk.frame _ _ _ St₂ fun b hb ob e => keep₃ b ob e
    show wpAny _ A (do holding [u] (assign (.Name x px) env v); do holding [] (assign (.Name y py) env u); pure ()) _ _ _
    refine wpAny_bind (wpAny_holding (wpAny_assign_Name (stName (s := { s with heap := h₃, toks := tk' }) f3 (Rd.ofIm imv) hk hd kp1 hon1 fun h₄ tk₄ hsb₄ f4 => ?_)))
    have S4 : S (i + 1) h₄ := W.walk.frame _ _ _ S3 fun b hb ob e => (hsb₄.2 b fun q => hfp b hb (.inl (by rw [q]; exact .head _))).trans e
    refine wpAny_bind (wpAny_holding (wpAny_assign_Name (stName (s := { s with heap := h₄, toks := tk₄ }) f4 (Rd.ofIm imu) hk2 hd2 kp2 hon2 fun h₅ tk₅ hsb₅ f5 => wpAny_pure ?_)))
    have S5 : S (i + 1) h₅ := W.walk.frame _ _ _ S4 fun b hb ob e => (hsb₅.2 b fun q => hfp b hb (.inl (by rw [q]; exact .head _))).trans e
    obtain ⟨g', f6, gs, gk⟩ := f5.rebase
    refine wpF (hX.out g' _ f6) fun fl s₇ q => ?_
    obtain ⟨fl', σ₇, o₇, hp, ⟨h₇, tk₇, rfl⟩, f7, fr⟩ := q
    have f8 := f7.back f.gd gs
    have inG : ∀ b ∈ fp, ∃ ob, g'.get? b = some ob ∧ h₅.get? b = some ob := fun b hb => by
      obtain ⟨ob, e⟩ := W.exs _ _ S5 b hb
      exact ⟨ob, gk b ob e (hfp b hb), e⟩
    have S7 : S (i + 1) h₇ := W.walk.frame _ _ _ S5 fun b hb ob e => by
      obtain ⟨ob', e1, e2⟩ := inG b hb
      rw [e2] at e; cases e
      exact f7.keep b _ e1
    have hfp' : ∀ b ∈ fp, ¬ bad env o₇ b := fun b hb q => by
      obtain ⟨ob', e1, _⟩ := inG b hb
      have := f7.badNot q
      rw [e1] at this; cases this
    have goOn : ForL2 w A env x y body orelse P (ds.drop (i + 1)) σ₇ o₇ → ∃ m, m < ds.length + 1 - i ∧ ∃ i σ o, i ≤ ds.length ∧ m = ds.length + 1 - i ∧ ForL2 w A env x y body orelse P (ds.drop i) σ o ∧ Fm w env σ o g h₇ ∧ S i h₇ ∧ (∃ h' tk, ({ s with heap := h₇, toks := tk₇ } : Shared) = { s with heap := h', toks := tk }) ∧ (∀ b ∈ fp, ¬ bad env o b) := fun hr =>
      ⟨ds.length + 1 - (i + 1), by omega, i + 1, σ₇, o₇, hlt, rfl, hr, f8, S7, ⟨h₇, tk₇, rfl⟩, hfp'⟩
    cases fl' with
    | next => cases fr; exact goOn hp
    | cont => cases fr; exact goOn hp
    | brk => cases fr; exact ⟨.next, σ₇, o₇, hp, ⟨h₇, tk₇, rfl⟩, f8, rfl⟩
    | ret d => obtain ⟨v, rfl, r⟩ := fr; exact ⟨.ret d, σ₇, o₇, hp, ⟨h₇, tk₇, rfl⟩, f8, v, rfl, r⟩
    | rown => obtain ⟨y, a, ds', e, rfl⟩ := fr; exact ⟨.rown, σ₇, o₇, hp, ⟨h₇, tk₇, rfl⟩, f8, y, a, ds', e, rfl⟩
  · have hend : i = ds.length := by omega
    subst hend
    refine W.walk.done _ _ _ Si fun h' tk' hkp => ?_
    have f1 : Fm w env σ o g h' := f'.but hkp ng (fun b hb => hfp b (wsub b hb)) (W.cls _ _ Si)
    rw [List.drop_length] at hF
    refine wpF (hF.out g _ f1) fun fl s₃ q => ?_
    exact Bh.trans ⟨h', tk', rfl⟩ q
theorem FTurn2.mono {x y : Str} {body : List Stmt} {d e : D} {rest rest' : St → Own → Prop} (h : FTurn2 w A env x y body d e σ o P rest) (k : ∀ σ o, rest σ o → rest' σ o) : FTurn2 w A env x y body d e σ o P rest' := by
  obtain ⟨σ₁, σ₂, h1, h2, h3, h4, h5⟩ := h
  refine ⟨σ₁, σ₂, h1, h2, h3, h4, ex_mono h5 fun fl σ o q => ?_⟩
  cases fl <;> first | exact k _ _ q | exact q
theorem FTurn2.forget {x y : Str} {body : List Stmt} {d e : D} {rest : St → Own → Prop} (h : FTurn2 w A env x y body d e σ' o P rest) (k : Sb σ' σ) : FTurn2 w A env x y body d e σ o P rest := by
  obtain ⟨σ₁, σ₂, h1, h2⟩ := h
  exact ⟨σ₁, σ₂, fun p hp => ⟨k _ (h1 p hp).1, (h1 p hp).2⟩, h2⟩
theorem ForL2.forget {x y : Str} {body orelse : List Stmt} {ds : List (D × D)} (h : ForL2 w A env x y body orelse P ds σ' o) (k : Sb σ' σ) : ForL2 w A env x y body orelse P ds σ o := by
  cases ds with
  | nil => exact ex_forget k h
  | cons d ds => exact FTurn2.forget h k
theorem forL2_ind {S : Type} {x y : Str} {body orelse : List Stmt} (st : S → St) (ow : S → Own) (I : List (D × D) → S → Prop)
    (hs : ∀ d ds s, I (d :: ds) s → FTurn2 w A env x y body d.1 d.2 (st s) (ow s) P (fun σ₂ o₂ => ∃ s', Sb (st s') σ₂ ∧ o₂ = ow s' ∧ I ds s')) (he : ∀ s, I [] s → Ex w A env (st s) (ow s) orelse P) :
    ∀ ds s, I ds s → ForL2 w A env x y body orelse P ds (st s) (ow s)
  | [], s, h => he s h
  | d :: ds, s, h => (hs d ds s h).mono fun σ o ⟨s', h1, h2, h3⟩ => by
    subst h2
    exact (forL2_ind st ow I hs he ds s' h3).forget h1
/-- enumerate over a tuple of the written part -/
theorem itrP_enum {x : Str} {p pos : Pos} {e : Expr} {a : Addr} {ob : Obj} {vs : List Value} {n : Nat} {ds : List D} (hv : GV w x (.type "enumerate")) (hk : env.kindOf x = some .globalImplicit) (he : Evs w A env σ o [e] [.ref a]) (hA : A.handled = none)
    (ho : (KK w).lookup a = some ob) (hc : ob.cls = .type "tuple") (hd : ob.data = .seq vs.toArray n) (hi : ImL vs ds) :
    ItrP w A env σ o (.Call (.Name x p) [e] [] pos) ((List.range ds.length).zipWith (fun (i : Nat) d => (D.int (i : Int), d)) ds) := by
  refine ⟨fun g s f => ?_⟩
  refine wpAny_Call_Name_kw (Calls.Name_function_global f.fn hk (hv.2 A env s _ _ f.gl f.bl f.gh ?_) hv.1)
  have q := spl (pos := pos) he g s f
  rw [he.1] at q ⊢
  refine PyProof.Rows.callWith_type rfl (Calls.evalArgs_plain (wpF q fun vs' s₁ q₁ => ?_))
  obtain ⟨v, rfl, rfl⟩ := rdl1 q₁.2
  have f1 := f.mono (kHeap q₁.1)
  have ht : s₁.heap.IsTuple a vs.toArray := ⟨ob, f1.gh.k _ _ ho, hc, n, hd⟩
  refine call_enumT ht fun h' hE hT hsz hkp => ?_
  refine wpAny_pyIter_enum (s := { s₁ with heap := h' }) hE ?_
  have hna : a ≠ s₁.heap.objs.size := by
    obtain ⟨ob, e, _⟩ := ht
    exact Nat.ne_of_lt (Heap.lt_size e)
  have hna1 : a ≠ s₁.heap.objs.size + 1 := by
    obtain ⟨ob, e, _⟩ := ht
    exact Nat.ne_of_lt (Nat.lt_succ_of_lt (Heap.lt_size e))
  have D0 := drawsTup (prog := prg) (w := w) (A := A.in1) hA s₁.heap.objs.size a hna vs.toArray
  have W := (WalksT.enumerateD D0 (s₁.heap.objs.size + 1) (Nat.succ_ne_self _) (by simp; exact fun q => hna1 q.symm) (by simp)).toU
  have hlen : ((List.range ds.length).zipWith (fun (i : Nat) d => (D.int (i : Int), d)) ds).length = ds.length := by simp
  rw [show vs.toArray.size = ((List.range ds.length).zipWith (fun (i : Nat) d => (D.int (i : Int), d)) ds).length from by rw [hlen, List.size_toArray, hi.length]] at W
  have nbad : ∀ b, b ∈ [s₁.heap.objs.size + 1, s₁.heap.objs.size, a] → ¬ bad env o b := by
    intro b hb q
    obtain ⟨ob', e'⟩ := f1.badIn q
    have hl := Heap.lt_size e'
    rcases List.mem_cons.mp hb with rfl | hb
    · exact absurd (Nat.lt_of_succ_lt hl) (Nat.lt_irrefl _)
    rcases List.mem_cons.mp hb with rfl | hb
    · exact absurd hl (Nat.lt_irrefl _)
    rw [List.mem_singleton.mp hb] at q
    have := f.badNot q
    rw [f.gd.k _ _ ho] at this; cases this
  have fresh : ∀ b, s₁.heap.objs.size ≤ b → s.heap.get? b = none := by
    intro b hb
    cases q : s.heap.get? b with
    | none => rfl
    | some ob' => exact absurd (Heap.lt_size (kHeap q₁.1 _ _ q)) (Nat.not_lt.mpr hb)
  refine ⟨kTrans q₁.1 (kMk (t := s₁.toks) hkp), _, _, _, _, _, _, rfl, ⟨W, ?_, ?_, ?_, ?_⟩, ⟨⟨.none, hE⟩, hT, tupAt ht fun o e => hkp _ _ e⟩, ?_, nbad⟩
  · rintro i vals hlt ⟨t, y, hy, rfl⟩
    rw [hlen] at hlt
    have hy' : vs[i]? = some y := by simpa using hy
    obtain ⟨d, hd', im⟩ := hi.getV hy'
    exact ⟨.int i, d, _, _, by simp [hlt]; rw [List.getElem?_eq_getElem hlt] at hd'; exact Option.some.inj hd', rfl, ⟨t, rfl⟩, im⟩
  · rintro i h ⟨⟨old, h1⟩, ⟨ob1, h2, h3, _⟩, _⟩ b hb
    rcases List.mem_cons.mp hb with rfl | hb
    · exact ⟨_, h1, fun q => absurd (Value.type.inj q) (by decide)⟩
    · rw [List.mem_singleton.mp hb]
      exact ⟨ob1, h2, by rw [h3]; exact fun q => absurd (Value.type.inj q) (by decide)⟩
  · rintro i T h ⟨⟨old, h1⟩, ⟨⟨ob1, h2, h3, _⟩, _⟩, _⟩ b hb
    rcases List.mem_cons.mp hb with rfl | hb
    · exact ⟨_, h1, fun q => absurd (Value.type.inj q) (by decide)⟩
    · rw [List.mem_singleton.mp hb]
      exact ⟨ob1, h2, by rw [h3]; exact fun q => absurd (Value.type.inj q) (by decide)⟩
  · rintro i h ⟨⟨old, h1⟩, ⟨ob1, h2, _⟩, ⟨ob2, h4, _⟩⟩ b hb
    rcases List.mem_cons.mp hb with rfl | hb
    · exact ⟨_, h1⟩
    rcases List.mem_cons.mp hb with rfl | hb
    · exact ⟨_, h2⟩
    rw [List.mem_singleton.mp hb]; exact ⟨_, h4⟩
  · intro b hb
    rcases List.mem_cons.mp hb with rfl | hb
    · exact fresh _ (Nat.le_succ _)
    · rw [List.mem_singleton.mp hb]; exact fresh _ (Nat.le_refl _)
/-- a tuple of pairs of the written part -/
theorem itrP_tupK {e : Expr} {a : Addr} {ob : Obj} {n : Nat} {as : List Addr} {ds : List (D × D)} (he : Ev w A env σ o e (.ref a)) (hA : A.handled = none)
    (ho : (KK w).lookup a = some ob) (hc : ob.cls = .type "tuple") (hd : ob.data = .seq (as.map Value.ref).toArray n) (hl : as.length = ds.length)
    (hp : ∀ i, i < as.length → ∃ ob n v u d e, (KK w).lookup (as.getD i 0) = some ob ∧ ob.cls = .type "tuple" ∧ ob.data = .seq #[v, u] n ∧ ds[i]? = some (d, e) ∧ Im v d ∧ Im u e) : ItrP w A env σ o e ds := by
  refine ⟨fun g s f => ?_⟩
  refine wpF (he.out g s f) fun v s₁ q => ?_
  obtain ⟨k, rfl⟩ := q
  have f1 := f.mono (kHeap k)
  have ht : s₁.heap.IsTuple a (as.map Value.ref).toArray := ⟨ob, f1.gh.k _ _ ho, hc, n, hd⟩
  refine wpAny_pyIter_tuple ht ?_
  have lt_of : ∀ {b ob}, (KK w).lookup b = some ob → b ≠ s₁.heap.objs.size := fun hb => Nat.ne_of_lt (Heap.lt_size (f1.gh.k _ _ hb))
  have hsz : (as.map Value.ref).toArray.size = as.length := by simp
  have hTs : ∀ i, i < as.length → ∃ vals : Array Value, (∃ ob n, (KK w).lookup (as.getD i 0) = some ob ∧ ob.cls = .type "tuple" ∧ ob.data = .seq vals n) ∧ ∃ d e v u, ds[i]? = some (d, e) ∧ vals = #[v, u] ∧ Im v d ∧ Im u e := by
    intro i hi
    obtain ⟨ob, n, v, u, d, e, h1, h2, h3, h4, h5, h6⟩ := hp i hi
    exact ⟨#[v, u], ⟨ob, n, h1, h2, h3⟩, d, e, v, u, h4, rfl, h5, h6⟩
  let vals : Nat → Array Value := fun i => if h : i < as.length then (hTs i h).choose else #[]
  have hvals : ∀ i (h : i < as.length), vals i = (hTs i h).choose := fun i h => by simp [vals, h]
  have W := tupOfTups (prog := prg) (w := w) (A := A) hA s₁.heap.objs.size a (lt_of ho) (as.map Value.ref).toArray (fun i => as.getD i 0) vals
    (fun j hj => by rw [hsz] at hj; simp [List.getD, hj])
    (fun j hj => by
      rw [hsz] at hj
      obtain ⟨ob, n, h1, _⟩ := (hTs j hj).choose_spec.1
      exact lt_of h1)
  have hsz' : (as.map Value.ref).toArray.size = ds.length := by rw [hsz, hl]
  have tups : ∀ h' : Heap, (∀ b ob, s₁.heap.get? b = some ob → h'.get? b = some ob) → ∀ i, i < (as.map Value.ref).toArray.size → h'.IsTuple (as.getD i 0) (vals i) := by
    intro h' hk i hi
    rw [hsz] at hi
    obtain ⟨ob, n, h1, h2, h3⟩ := (hTs i hi).choose_spec.1
    rw [hvals i hi]
    exact ⟨ob, hk _ _ (f1.gh.k _ _ h1), h2, n, h3⟩
  have W' := W
  rw [hsz'] at W'
  refine ⟨kTrans k (kMk (t := s₁.toks) fun b ob e => Heap.get?_push_of_some _ e), s₁.heap.objs.size, _, [s₁.heap.objs.size], _, _, _, rfl, ⟨W', ?_, ?_, ?_, ?_⟩, ?_, ?_, ?_⟩
  · rintro i v hlt rfl
    have hi : i < as.length := by rw [hl]; exact hlt
    obtain ⟨d, e, v, u, h1, h2, h3, h4⟩ := (hTs i hi).choose_spec.2
    exact ⟨d, e, v, u, h1, by rw [hvals i hi]; exact h2, h3, h4⟩
  · rintro i h ⟨⟨ob, e1, e2, _⟩, _⟩ b hb
    rw [List.mem_singleton.mp hb]
    exact ⟨ob, e1, by rw [e2]; intro q; exact absurd (Value.type.inj q) (by decide)⟩
  · rintro i T h ⟨_, ⟨ob, e1, e2, _⟩, _⟩ b hb
    rw [List.mem_singleton.mp hb]
    exact ⟨ob, e1, by rw [e2]; intro q; exact absurd (Value.type.inj q) (by decide)⟩
  · rintro i h ⟨⟨ob, e1, _⟩, ⟨ob2, e2, _⟩, h3⟩ b hb
    rcases List.mem_cons.mp hb with rfl | hb
    · exact ⟨ob, e1⟩
    rcases List.mem_cons.mp hb with rfl | hb
    · exact ⟨ob2, e2⟩
    obtain ⟨j, hj, rfl⟩ := List.mem_map.mp hb
    obtain ⟨ob3, e3, _⟩ := h3 j (List.mem_range.mp hj)
    exact ⟨ob3, e3⟩
  · refine ⟨⟨_, Heap.get?_push_size _ rfl, rfl, rfl⟩, ht.push _, ?_⟩
    rw [← hsz']
    exact tups _ fun b ob e => Heap.get?_push_of_some _ e
  · intro b hb
    rw [List.mem_singleton.mp hb]
    cases q : s.heap.get? s₁.heap.objs.size with
    | none => rfl
    | some ob => exact absurd (Heap.lt_size (kHeap k _ _ q)) (Nat.lt_irrefl _)
  · have inK : ∀ {b ob}, (KK w).lookup b = some ob → ¬ bad env o b := fun hb q => by
      have := f.badNot q
      rw [f.gd.k _ _ hb] at this; cases this
    intro b hb
    rcases List.mem_cons.mp hb with rfl | hb
    · exact fresh_not fun a b => f1.badIn b
    rcases List.mem_cons.mp hb with rfl | hb
    · exact inK ho
    obtain ⟨j, hj, rfl⟩ := List.mem_map.mp hb
    obtain ⟨ob, n, h1, _⟩ := (hTs j (by rw [hl]; exact List.mem_range.mp hj)).choose_spec.1
    exact inK h1
end
end Mine
end
section
open PySem PySem.W PyProof.Rows
set_option Elab.async false
set_option maxRecDepth 100000
set_option linter.unusedVariables false
namespace Mine
theorem slot_tr : Slot "bytes" (Str.ofString "translate") "bytes.translate" :=
  .of (owner := "bytes") (n := "translate") (by rw [typeLookup_type, builtinLookup_eq_fast]; kernel_rfl) (by decide +kernel) (by decide +kernel) (by decide +kernel)
    (by first | exact .inl (by decide +kernel) | exact .inr (by decide +kernel)) (by rw [isSubtype_type]; kernel_rfl)
theorem type_tr : typeOf (.builtin "bytes.translate") = pure (.type "method_descriptor") := by show builtinType _ = _; rw [builtinType_eq_fast]; kernel_rfl
theorem entry_tr : entryFor table "bytes.translate" = some Builtin.«bytes.translate» := entryFor_of_tree (by kernel_rfl)
theorem args_tr (a b : Value) : argsOk "bytes.translate" ⟨[a, b], []⟩ := by unfold argsOk; kernel_rfl
theorem entry_mt : entryFor table "bytes.maketrans" = some Builtin.«bytes.maketrans» := entryFor_of_tree (by kernel_rfl)
noncomputable def idTab : Array UInt8 := (Array.range 256).map (·.toUInt8)
noncomputable def mkTab (f g : Array UInt8) : Array UInt8 := (f.toList.zip g.toList).foldl (fun t p => t.setIfInBounds p.1.toNat p.2) idTab
theorem mkTab_size (f g : Array UInt8) : (mkTab f g).size = 256 := by
  unfold mkTab
  have h : ∀ (l : List (UInt8 × UInt8)) (t : Array UInt8), (l.foldl (fun t p => t.setIfInBounds p.1.toNat p.2) t).size = t.size := by
    intro l
    induction l with
    | nil => intro t; rfl
    | cons p l ih => intro t; rw [List.foldl_cons, ih]; simp
  rw [h]; simp [idTab]
noncomputable def trans (t b : Array UInt8) : Array UInt8 := b.map fun c => t.getD c.toNat c
theorem pif_not {α : Type} {M : Model} {A : Around} {E : Value → Shared → Prop} {s : Shared} {c : Prop} {dc : Decidable c} {a b : Sem α} {Q : α → Shared → Prop} (hc : ¬ c) (h : wpAny M A b Q E s) : wpAny M A (if c then a else b) Q E s := by
  rw [if_neg hc]; exact h
section
variable {w : World} {M : Model} {A : Around} {E : Value → Shared → Prop} {s : Shared}
theorem tree_mt {f g : Array UInt8} {t u : Tok} {P : Fin → Shared → Prop} (hz : f.size = g.size) (h : P (.done (.ret (.bytes (mkTab f g) s.toks))) { s with toks := s.toks + 1 }) :
    wpAny M A (Builtin.«bytes.maketrans» ⟨[.bytes f t, .bytes g u], []⟩) P E s := by
  unfold Builtin.«bytes.maketrans» Builtin.Bytes.maketransM
  refine wpAny_bind (wpAny_of_eq (a := ()) (by rfl) ?_)
  refine wpAny_bind (wpAny_of_eq (a := ()) (by rfl) ?_)
  refine wpAny_bind (wpAny_of_eq (a := f) KBd.like_eq ?_)
  refine wpAny_bind (wpAny_of_eq (a := g) KBd.like_eq ?_)
  have hb : (f.size != g.size) = false := by simp [hz]
  refine KFB.if_not hb ?_
  refine wpAny_bind (wpAny_mkBytes (wpAny_pure ?_) ?_)
  · exact h
  · show (mkTab f g).size ≤ sizeLine
    rw [mkTab_size, sizeLine_eq]; decide
theorem tree_tr {b t : Array UInt8} {u v : Tok} {P : Fin → Shared → Prop} (ht : t.size = 256) (hz : b.size ≤ 1000000) (h : ∀ t' k, P (.done (.ret (.bytes (trans t b) t'))) { s with toks := k }) :
    wpAny M A (Builtin.«bytes.translate» ⟨[.bytes b u, .bytes t v], []⟩) P E s := by
  unfold Builtin.«bytes.translate» Builtin.Bytes.translateM
  refine pif_not (by show ¬ (1 > 2); decide) ?_
  refine KFB.if_not rfl ?_
  refine KFB.if_not rfl ?_
  refine wpAny_bind (wpAny_of_eq (a := t) KBd.like_eq ?_)
  have hb : (t.size != 256) = false := by simp [ht]
  refine KFB.if_not hb ?_
  refine wpAny_bind (wpAny_pure ?_)
  refine wpAny_bind (wpAny_pure ?_)
  refine wpAny_bind (wpAny_of_eq (a := b) (by rfl) ?_)
  have ef : (b.filter fun x => !(#[] : Array UInt8).contains x) = b := by simp
  simp only [ef]
  show wpAny M A (if (trans t b == b) = true then _ else _) P E s
  by_cases hc : (trans t b == b) = true
  · have hc' : trans t b = b := by simpa using hc
    rw [if_pos hc]
    refine wpAny_bind (wpAny_rule ?_)
    refine wpAny_bind (wpAny_of_eq (a := .bytes b u) (by rfl) (wpAny_pure ?_))
    have := h u s.toks
    rw [hc'] at this
    exact this
  · rw [if_neg hc]
    refine wpAny_bind (wpAny_mkBytes (wpAny_pure (h _ _)) ?_)
    simp only [trans, Array.size_map, sizeLine_eq]; omega
theorem check_mt {f g : Array UInt8} {t u : Tok} : checkBuiltinCall "bytes.maketrans" ⟨[.bytes f t, .bytes g u], []⟩ = pure () := by first | kernel_rfl | rfl
end
section
variable {w : World} {A : Around} {env : Env} {σ σ' : St} {o : Own} {P : Post}
theorem cl_trans {b t : Array UInt8} (ht : t.size = 256) (hz : b.size ≤ 1000000) : Cal w A (.builtin "bytes.translate") [.byt b, .byt t] (.byt (trans t b)) := by
  constructor; rintro bd s vs gd hb hr
  obtain ⟨v, u, rfl, ⟨t1, rfl⟩, ⟨t2, rfl⟩⟩ := rdl2 hr
  exact wpAny_call_entry slot_tr (typeIs_bytes _ _ _) entry_tr (tree_tr ht hz fun t' k => ⟨_, rfl, kToks, _, rfl⟩) (args_tr _ _)
theorem cl_mt {f g : Array UInt8} (hz : f.size = g.size) : Cal w A (.builtin "bytes.maketrans") [.byt f, .byt g] (.byt (mkTab f g)) := by
  constructor; rintro bd s vs gd hb hr
  obtain ⟨v, u, rfl, ⟨t1, rfl⟩, ⟨t2, rfl⟩⟩ := rdl2 hr
  refine wpAny_call (codeAny_call_builtin (by decide +kernel) entry_mt ?_)
  rw [check_mt]
  exact wpAny_pure (tree_mt hz ⟨kToks, _, rfl⟩)
theorem getm_mt {s : Shared} {E : Value → Shared → Prop} {pl : Sem Bool} {Q : Value × List Value → Shared → Prop} (h : Q (.builtin "bytes.maketrans", []) { s with toks := s.toks + 1 }) :
    wpAny (model prg w) A (getMethod (.type "bytes") (Str.ofString "maketrans") pl) Q E s := by
  have X : Frag.In [] s.heap := fun _ _ e => nomatch e
  have hs : Manifest.isStub "bytes" = false := by decide +kernel
  have ht : typeOf (.type "bytes") = pure (.type "type") := by first | rfl | kernel_rfl
  have hstub : opaqueClassAbove (.type "bytes") = pure none := by unfold opaqueClassAbove; dsimp only; rw [hs]; rfl
  have L0 : Looks (model prg w) s.heap (typeOf (.type "bytes")) (.type "type") := Looks.of_pure ht
  have hg : findIn [] (.type "type") "__getattribute__" = some (some (.builtin "type.__getattribute__")) := type_tga
  have e : findCls [] (.type "bytes") (.type "type") (Str.ofString "maketrans") = some (.val (.builtin "bytes.maketrans")) := by first | rfl | kernel_rfl
  unfold getMethod specialOf
  refine wpAny_bind (wpAny_bind (L0.here ((looks_findIn X hg).here ?_)))
  dsimp only
  rw [if_pos canon_tga]
  refine wpAny_bind (wpAny_mono (Q := fun v => Q (v, [])) (E := E) ?_ (fun _ _ z => wpAny_pure z) fun _ _ z => z)
  have LO : Looks (model prg w) s.heap (opaqueClassAbove (.type "bytes")) none := Looks.of_pure hstub
  refine cls_open X LO L0 hg (looks_hook X (r := none) (by rfl)) (by show subIn [] _ _ = _; rfl) e
    (wpAny_pure (by show wpAny _ _ (handedOut _) _ _ _; rw [handedOut_of (by decide +kernel)]; exact wpAny_pure h))
theorem ev_mt {ob e₁ e₂ : Expr} {apos pos : Pos} {f g : Array UInt8} (ho : Ev w A env σ o ob (.typ "bytes")) (h₁ : Ev w A env σ o e₁ (.byt f)) (h₂ : Ev w A env σ o e₂ (.byt g)) (hz : f.size = g.size)
    (hs : starEach [e₁, e₂] env = [(false, eval e₁ env), (false, eval e₂ env)]) (hbase : attributeBase ob (Str.ofString "maketrans") env (eval ob env) = eval ob env) (hline : (apos.endLine == pos.line) = true) :
    Ev w A env σ o (.Call (.Attribute ob (Str.ofString "maketrans") apos) [e₁, e₂] [] pos) (.byt (mkTab f g)) := by
  refine ⟨fun gg s fr => ?_⟩
  rw [arm_eval_Call, hbase]
  refine wpAny_bind (wpF (ho.out gg s fr) fun ov s₁ q₁ => ?_)
  obtain ⟨k₁, rfl⟩ := q₁
  refine wpAny_bind (wpAny_standAt ?_)
  have hform : methodCallForm ([e₁, e₂].length + ([] : List Keyword).length) (backTo pos (starEach [e₁, e₂] env)) (backToKw pos (keywordEach [] env)) = true := by rw [hs]; rfl
  have hpos : methodCallPos true ob env apos pos = pure pos := by unfold methodCallPos; simp [hline]
  unfold methodCall
  rw [hform]
  refine wpAny_bind (wpAny_holding (getm_mt ?_))
  refine wpAny_bind (wpAny_of_eq hpos ?_)
  rw [hs]
  have k1' : Keeps s { s₁ with toks := s₁.toks + 1 } := kTrans k₁ kToks
  refine Calls.callWith_builtin rfl (Calls.evalArgs_plain (Calls.spliced_cons (wpF (h₁.out gg _ (fr.mono (kHeap k1'))) fun v s₂ q₂ => Calls.spliced_cons (wpF (h₂.out gg s₂ (fr.mono (kHeap (kTrans k1' q₂.1)))) fun u s₃ q₃ => Calls.spliced_nil ?_))))
  have k := kTrans k1' (kTrans q₂.1 q₃.1)
  exact wpF ((cl_mt hz).out (bad env o) s₃ [v, u] (fr.gh.mono (kHeap k)) (fun a b => (fr.mono (kHeap k)).badIn b) ⟨q₂.2.mono (kHeap q₃.1), q₃.2, trivial⟩) fun v s₃ q₃ => ⟨kTrans k q₃.1, q₃.2⟩
end
end Mine
end
section
open PySem PySem.W PyProof.Rows
set_option Elab.async false
set_option maxRecDepth 100000
set_option linter.unusedVariables false
namespace Mine
theorem loop2 {β : Type} (f : Nat → β → Sem (ForInStep β)) (s0 s1 : β) (h0 : ∀ k, f k s0 = pure (.yield s1)) (h1 : ∀ k, f k s1 = pure (.done s1)) : ∀ l : List Nat, l ≠ [] → (forIn l s0 f : Sem β) = pure s1
  | [], h => absurd rfl h
  | [a], _ => by rw [List.forIn_cons, h0, pure_bind]; exact List.forIn_nil ..
  | a :: b :: l, _ => by rw [List.forIn_cons, h0, pure_bind]; show (forIn (b :: l) s1 f : Sem β) = _; rw [List.forIn_cons, h1, pure_bind]
theorem bindL {α β : Type} {m m' : Sem α} {k : α → Sem β} {r : Sem β} (h : m = m') (hk : (m' >>= k) = r) : (m >>= k) = r := by rw [h]; exact hk
noncomputable def ascB (x : Str) : Array UInt8 := x.cps.map (·.toUInt8)
theorem foldl_asc : ∀ (l : List Nat) (acc : Array UInt8), l.foldl (fun acc y => acc ++ (Builtin._codecs.asciiCodec.bytesOf y).toArray) acc = acc ++ (l.map (·.toUInt8)).toArray
  | [], acc => by simp
  | c :: l, acc => by
    rw [List.foldl_cons, foldl_asc l]
    simp [Builtin._codecs.asciiCodec]
theorem narrow {id : String} {self : Value} {x : Str} (h : ∀ c ∈ x.cps, c < 128) (hz : x.length ≤ 100000) : Builtin._codecs.encodeNarrow id Builtin._codecs.asciiCodec none self x = pure (ascB x) := by
  unfold Builtin._codecs.encodeNarrow
  simp only [Std.Legacy.Range.forIn_eq_forIn_range']
  by_cases hx : x.length = 0
  · have hx' : x.cps = #[] := Array.eq_empty_of_size_eq_zero hx
    have e : [:x.length].size = 0 := by rw [hx]; rfl
    rw [e]
    show (pure _ : Sem _) = _
    unfold ascB
    rw [hx']; simp
  · have hbad : ∀ c ∈ x.cps, Builtin._codecs.asciiCodec.bad c = false := fun c hc => by
      have := h c hc
      simp [Builtin._codecs.asciiCodec]; omega
    have hfind : Array.findIdx? Builtin._codecs.asciiCodec.bad x.cps = none := by
      rw [Array.findIdx?_eq_none_iff]; exact hbad
    refine bindL (loop2 _ _ (x.length, ascB x, {}) ?_ ?_ _ ?_) ?_
    · intro k
      dsimp only
      have h0 : 0 < x.cps.size := Nat.pos_of_ne_zero hx
      rw [if_neg (by show ¬ (0 > sizeLine); omega), Array.getElem?_eq_getElem h0]
      dsimp only
      rw [if_pos (by rw [hbad _ (Array.getElem_mem _)]; rfl)]
      have e1 : x.cps.extract 0 = x.cps := by simp
      rw [e1, hfind]
      simp only [Option.getD_none]
      congr 1
      have e2 : Array.foldl (fun acc y => acc ++ (Builtin._codecs.asciiCodec.bytesOf y).toArray) #[] x.cps = ascB x := by
        rw [← Array.foldl_toList, foldl_asc]
        unfold ascB
        apply Array.toList_inj.mp
        simp only [Array.toList_append, Array.toList_map, List.nil_append]
      simp only [Array.extract_size]
      rw [e2]
      simp [Str.length]
    · intro k
      dsimp only
      rw [if_neg (by
        show ¬ ((ascB x).size > sizeLine)
        have : (ascB x).size = x.length := by simp [ascB, Str.length]
        rw [this, sizeLine_eq]; omega)]
      have : x.cps[x.length]? = none := by simp [Str.length]
      rw [this]
    · intro q
      have : (List.range' 0 [:x.length].size).length = 0 := by rw [q]; rfl
      simp [Std.Legacy.Range.size] at this
      exact hx this
    · rfl
theorem tree_enc {M : Model} {A : Around} {E : Value → Shared → Prop} {s : Shared} {x : Str} {t u : Tok} {P : Fin → Shared → Prop} (h : ∀ c ∈ x.cps, c < 128) (hz : x.length ≤ 100000) (hP : P (.done (.ret (.bytes (ascB x) s.toks))) { s with toks := s.toks + 1 }) :
    wpAny M A (Builtin.«str.encode» ⟨[.str x t, .str (Str.ofString "ascii") u], []⟩) P E s := by
  have e : Builtin.«str.encode» ⟨[.str x t, .str (Str.ofString "ascii") u], []⟩ = (do ret (← (do mkBytes (← Builtin._codecs.encodeNarrow "str.encode" Builtin._codecs.asciiCodec none (.str x t) x)))) := by first | rfl | kernel_rfl
  rw [e, narrow h hz]
  refine wpAny_bind (wpAny_bind (wpAny_pure (wpAny_mkBytes (wpAny_pure hP) ?_)))
  have : (ascB x).size = x.length := by simp [ascB, Str.length]
  rw [this, sizeLine_eq]; omega
section
variable {w : World} {A : Around} {env : Env} {σ σ' : St} {o : Own} {P : Post}
theorem cl_enc {x : Str} (h : ∀ c ∈ x.cps, c < 128) (hz : x.length ≤ 100000) : Cal w A (.builtin "str.encode") [.str x, .str (Str.ofString "ascii")] (.byt (ascB x)) := by
  constructor; rintro bd s vs gd hb hr
  obtain ⟨v, u, rfl, ⟨t1, rfl⟩, ⟨t2, rfl⟩⟩ := rdl2 hr
  exact wpAny_call_entry F.slot_str_encode (typeIs_str _ _ _) F.entry_str_encode (tree_enc h hz ⟨_, rfl, kToks, _, rfl⟩) (F.args_str_encode_2 _ _)
theorem cl_isStr {x : Str} : Cal w A (.builtin "isinstance") [.str x, .typ "str"] (.bool true) := by
  constructor; rintro bd s vs gd hb hr
  obtain ⟨v, u, rfl, ⟨t1, rfl⟩, rfl⟩ := rdl2 hr
  exact call_isinstance (isinstance_true (Tx := "str") (by first | rfl | kernel_rfl) (by rw [isSubtype_type]; kernel_rfl)) ⟨typeIs_str _ _ _, kRefl s, rfl⟩
/-- a try whose body gives back -/
theorem ex_try {body : List Stmt} {h₀ : ExceptHandler} {hs : List ExceptHandler} {pos : Pos} (h : Ex w A env σ o body P) : Ex1 w A env σ o (.Try body (h₀ :: hs) [] [] pos) P := by
  refine ⟨fun g s f => wpAny_Try_except (wpAny_mono (h.out g s f) (fun fl s₁ q => ?_) fun _ _ x => x.elim)⟩
  cases fl with
  | next => exact wpAny_execs_nil q
  | brk => exact q
  | cont => exact q
  | ret v => exact q
end
end Mine
end
section
open PySem PySem.W PyProof.Rows
set_option Elab.async false
set_option maxRecDepth 100000
set_option linter.unusedVariables false
namespace Mine
theorem Im.inj {v : Value} : ∀ {d e : D}, Im v d → Im v e → d = e
  | .none, .none, _, _ => rfl
  | .bool a, .bool b, h, k => by cases (show v = .bool a from h); cases (show Value.bool a = .bool b from k); rfl
  | .int a, .int b, h, k => by obtain ⟨t, rfl⟩ := h; obtain ⟨u, e⟩ := k; cases e; rfl
  | .str a, .str b, h, k => by obtain ⟨t, rfl⟩ := h; obtain ⟨u, e⟩ := k; cases e; rfl
  | .byt a, .byt b, h, k => by obtain ⟨t, rfl⟩ := h; obtain ⟨u, e⟩ := k; cases e; rfl
  | .typ a, .typ b, h, k => by cases (show v = .type a from h); cases (show Value.type a = .type b from k); rfl
  | .ref a, .ref b, h, k => by cases (show v = .ref a from h); cases (show Value.ref a = .ref b from k); rfl
  | .list _, _, h, _ => h.elim
  | _, .list _, _, k => k.elim
  | .none, .bool _, h, k => by cases (show v = .none from h); cases (show Value.none = .bool _ from k)
  | .none, .int _, h, k => by cases (show v = .none from h); obtain ⟨_, e⟩ := k; cases e
  | .none, .str _, h, k => by cases (show v = .none from h); obtain ⟨_, e⟩ := k; cases e
  | .none, .byt _, h, k => by cases (show v = .none from h); obtain ⟨_, e⟩ := k; cases e
  | .none, .typ _, h, k => by cases (show v = .none from h); cases (show Value.none = .type _ from k)
  | .none, .ref _, h, k => by cases (show v = .none from h); cases (show Value.none = .ref _ from k)
  | .bool a, .none, h, k => by cases (show v = .bool a from h); cases (show Value.bool a = .none from k)
  | .bool a, .int _, h, k => by cases (show v = .bool a from h); obtain ⟨_, e⟩ := k; cases e
  | .bool a, .str _, h, k => by cases (show v = .bool a from h); obtain ⟨_, e⟩ := k; cases e
  | .bool a, .byt _, h, k => by cases (show v = .bool a from h); obtain ⟨_, e⟩ := k; cases e
  | .bool a, .typ _, h, k => by cases (show v = .bool a from h); cases (show Value.bool a = .type _ from k)
  | .bool a, .ref _, h, k => by cases (show v = .bool a from h); cases (show Value.bool a = .ref _ from k)
  | .int a, .none, h, k => by obtain ⟨_, rfl⟩ := h; cases (show Value.int a _ = .none from k)
  | .int a, .bool _, h, k => by obtain ⟨_, rfl⟩ := h; cases (show Value.int a _ = .bool _ from k)
  | .int a, .str _, h, k => by obtain ⟨_, rfl⟩ := h; obtain ⟨_, e⟩ := k; cases e
  | .int a, .byt _, h, k => by obtain ⟨_, rfl⟩ := h; obtain ⟨_, e⟩ := k; cases e
  | .int a, .typ _, h, k => by obtain ⟨_, rfl⟩ := h; cases (show Value.int a _ = .type _ from k)
  | .int a, .ref _, h, k => by obtain ⟨_, rfl⟩ := h; cases (show Value.int a _ = .ref _ from k)
  | .str a, .none, h, k => by obtain ⟨_, rfl⟩ := h; cases (show Value.str a _ = .none from k)
  | .str a, .bool _, h, k => by obtain ⟨_, rfl⟩ := h; cases (show Value.str a _ = .bool _ from k)
  | .str a, .int _, h, k => by obtain ⟨_, rfl⟩ := h; obtain ⟨_, e⟩ := k; cases e
  | .str a, .byt _, h, k => by obtain ⟨_, rfl⟩ := h; obtain ⟨_, e⟩ := k; cases e
  | .str a, .typ _, h, k => by obtain ⟨_, rfl⟩ := h; cases (show Value.str a _ = .type _ from k)
  | .str a, .ref _, h, k => by obtain ⟨_, rfl⟩ := h; cases (show Value.str a _ = .ref _ from k)
  | .byt a, .none, h, k => by obtain ⟨_, rfl⟩ := h; cases (show Value.bytes a _ = .none from k)
  | .byt a, .bool _, h, k => by obtain ⟨_, rfl⟩ := h; cases (show Value.bytes a _ = .bool _ from k)
  | .byt a, .int _, h, k => by obtain ⟨_, rfl⟩ := h; obtain ⟨_, e⟩ := k; cases e
  | .byt a, .str _, h, k => by obtain ⟨_, rfl⟩ := h; obtain ⟨_, e⟩ := k; cases e
  | .byt a, .typ _, h, k => by obtain ⟨_, rfl⟩ := h; cases (show Value.bytes a _ = .type _ from k)
  | .byt a, .ref _, h, k => by obtain ⟨_, rfl⟩ := h; cases (show Value.bytes a _ = .ref _ from k)
  | .typ a, .none, h, k => by cases (show v = .type a from h); cases (show Value.type a = .none from k)
  | .typ a, .bool _, h, k => by cases (show v = .type a from h); cases (show Value.type a = .bool _ from k)
  | .typ a, .int _, h, k => by cases (show v = .type a from h); obtain ⟨_, e⟩ := k; cases e
  | .typ a, .str _, h, k => by cases (show v = .type a from h); obtain ⟨_, e⟩ := k; cases e
  | .typ a, .byt _, h, k => by cases (show v = .type a from h); obtain ⟨_, e⟩ := k; cases e
  | .typ a, .ref _, h, k => by cases (show v = .type a from h); cases (show Value.type a = .ref _ from k)
  | .ref a, .none, h, k => by cases (show v = .ref a from h); cases (show Value.ref a = .none from k)
  | .ref a, .bool _, h, k => by cases (show v = .ref a from h); cases (show Value.ref a = .bool _ from k)
  | .ref a, .int _, h, k => by cases (show v = .ref a from h); obtain ⟨_, e⟩ := k; cases e
  | .ref a, .str _, h, k => by cases (show v = .ref a from h); obtain ⟨_, e⟩ := k; cases e
  | .ref a, .byt _, h, k => by cases (show v = .ref a from h); obtain ⟨_, e⟩ := k; cases e
  | .ref a, .typ _, h, k => by cases (show v = .ref a from h); cases (show Value.ref a = .type _ from k)
section
variable {w : World} {A : Around} {env : Env} {σ σ' : St} {o : Own} {P : Post}
/-- what a comprehension may see of the frame around it -/
structure Sees (env : Env) (scope : Scope) (cl : List (Str × Addr)) (σ σf : St) : Prop where
  sub : ∀ p ∈ cl, p ∈ env.cells
  see : ∀ p ∈ σf, p ∈ σ ∧ env.kindOf p.1 = some .cell ∧ (relabel scope env).names.lookup p.1 = some .cell ∧ cl.lookup p.1 = env.cells.lookup p.1 ∧ isIm p.2 = true
theorem sees_nil {scope : Scope} : Sees env scope [] σ [] := ⟨(fun _ h => nomatch h), (fun _ h => nomatch h)⟩
theorem compFrame {scope : Scope} {cl : List (Str × Addr)} {σf : St} {x : Str} {v : Value} {d : D} {C : Addr} {g : Heap} {s s₂ s₃ : Shared} {wr : List Addr} {m₃ : Str → Option Value} (f : Fm w env σ o g s.heap) (k₂ : Keeps s s₂) (hwr : ∀ b ∈ wr, s.heap.get? b = none)
    (hC : s₂.heap.objs.size ≤ C) (k₃ : ∀ b ob, b ∉ wr → s₂.heap.get? b = some ob → s₃.heap.get? b = some ob) (hn : s₃.heap.Ns C m₃) (hm : m₃ x = some v) (im : Im v d) (hd : dbg x) (hkind : scope.kind = .function) (hx : scope.names.lookup x = some .local) (S : Sees env scope cl σ σf) :
    Fm w (compEnvC scope cl C env) ((x, d) :: σf) none g s₃.heap := by
  have up : ∀ b ob, s.heap.get? b = some ob → s₃.heap.get? b = some ob := fun b ob e => k₃ b ob (fun q => by rw [hwr b q] at e; cases e) (kHeap k₂ b ob e)
  have lt : ∀ b ob, s.heap.get? b = some ob → b ≠ C := fun b ob e q => by
    have := Heap.lt_size (kHeap k₂ b ob e)
    rw [q] at this
    exact absurd this (Nat.not_lt.mpr hC)
  refine ⟨f.gd, fun b ob e => up b ob (f.keep b ob e), fun a ha => ?_, hkind, f.gl, f.bl, fun p hp => ?_, m₃, hn, fun p hp => ?_, fun _ _ _ e => nomatch e⟩
  · rcases List.mem_cons.mp ha with e | ha
    · have e' : a = C := e
      cases q : g.get? a with
      | none => rfl
      | some ob => exact absurd e' (lt a ob (f.keep _ _ q))
    · obtain ⟨p, hp, rfl⟩ := List.mem_map.mp ha
      exact f.fr _ (.tail _ (List.mem_map_of_mem (S.sub p hp)))
  · obtain ⟨_, ob, e, cc⟩ := f.cl p (S.sub p hp)
    exact ⟨lt _ _ e, ob, up _ _ e, cc⟩
  · rcases List.mem_cons.mp hp with rfl | hp
    · exact ⟨v, ⟨hd, .inl ⟨lookup_relabel_local hx, hm⟩⟩, Rd.ofIm im⟩
    · obtain ⟨h1, h2, h3, h4, h5⟩ := S.see p hp
      obtain ⟨m, hns, hs, _⟩ := f.ns
      obtain ⟨u, ⟨hd', hv⟩, hr⟩ := hs p h1
      rcases hv with ⟨hk, _⟩ | ⟨c, ob, _, h0, hc, ho, hdt⟩
      · rw [h2] at hk; cases hk
      · exact ⟨u, ⟨hd', .inr ⟨c, ob, .inl h3, h0, h4.trans hc, up _ _ ho, hdt⟩⟩, Rd.ofIm (hr.im h5)⟩
theorem paired_imL {f : D → D} : ∀ {ds : List D} {vs ys : List Value}, Paired (fun v y => ∀ d, Im v d → Im y (f d)) vs ys → vs.length = ds.length → (∀ (j : Nat) v d, vs[j]? = some v → ds[j]? = some d → Im v d) → ImL ys (ds.map f)
  | [], [], _, .nil, _, _ => trivial
  | d :: ds, v :: vs, _, .cons h hs, hl, hv => ⟨h d (hv 0 v d rfl rfl), paired_imL hs (by simpa using hl) fun j v d e1 e2 => hv (j + 1) v d (by simpa using e1) (by simpa using e2)⟩
  | [], _ :: _, _, _, hl, _ => by simp at hl
  | _ :: _, [], _, _, hl, _ => by simp at hl
theorem quietComp {scope : Scope} {cl : List (Str × Addr)} {σf : St} {x : Str} {elt : Expr} {ds : List D} {fn : D → D} {g : Heap} {s s₂ : Shared} {fp wr : List Addr} {PV : Nat → Value → Prop} {St' : Nat → Heap → Prop} {I : Addr} (f : Fm w env σ o g s.heap) (k₂ : Keeps s s₂) (hwr : ∀ b ∈ wr, s.heap.get? b = none)
    (hd : dbg x) (hkind : scope.kind = .function) (hx : scope.names.lookup x = some .local) (S : Sees env scope cl σ σf) (im : ∀ i v, PV i v → ∃ d ∈ ds, Im v d) (hf : ∀ d ∈ ds, isIm (fn d) = true)
    (he : ∀ d ∈ ds, ∀ C, Ev w A (compEnvC scope cl C env) ((x, d) :: σf) none elt (fn d)) :
    QuietOnC prg w A env scope cl x [] elt wr PV (fun _ => true) (fun v y => ∀ d, Im v d → Im y (fn d)) s₂ where
  tests := fun C i v s₃ m₃ E' hC hP hn hm hk ht => wpAny_pure ⟨rfl, kRefl s₃⟩
  elt := fun C i v s₃ m₃ E' hC hP hp hn hm hk ht => by
    obtain ⟨d, hd', iv⟩ := im i v hP
    have F := compFrame f k₂ hwr hC hk hn hm iv hd hkind hx S
    refine wpF ((he d hd' C).out g s₃ F) fun y s₄ q => ⟨fun d₂ i₂ => ?_, q.1⟩
    rw [Im.inj i₂ iv]
    exact q.2.im (hf d hd')
end
end Mine
end
section
open PySem PySem.W PyProof.Rows
set_option Elab.async false
set_option maxRecDepth 100000
set_option linter.unusedVariables false
namespace Mine
section
variable {w : World} {A : Around} {env : Env} {σ σ' : St} {o : Own} {P : Post}
theorem Fm.storeK {x : Str} {v : Value} {d : D} {g h h' : Heap} {m : Str → Option Value} (f : Fm w env σ o g h) (hn0 : h.Ns env.locals m) (hn : h'.Ns env.locals (fun y => if y = x then some v else m y)) (k : ∀ b ob, b ≠ env.locals → h.get? b = some ob → h'.get? b = some ob)
    (hr : Rd (Mine.bad env o) h' v d) (hk : env.kindOf x = some .local) (hd : dbg x) (kp : Kq x σ σ') (ho : OwnNot o x) : Fm w env ((x, d) :: σ') o g h' := by
  have nl : ∀ b ob, g.get? b = some ob → b ≠ env.locals := fun b ob e q => by
    have := f.fr env.locals (.head _)
    rw [← q, e] at this; cases this
  have rd : ∀ {v : Value} {d : D}, Rd (Mine.bad env o) h v d → Rd (Mine.bad env o) h' v d := by
    intro v d r
    cases d with
    | list ds =>
      obtain ⟨a, vs, e, nb, hl, hi⟩ := r
      refine ⟨a, vs, e, nb, hl.at fun ob e => k a ob (fun q => nb (.inl (by rw [q]; exact .head _))) e, hi⟩
    | _ => exact r
  have meq : ∀ m', h.Ns env.locals m' → m' = m := fun m' hm' => Fm.nsEq (g := g) hn0 hm'
  refine ⟨f.gd, fun b ob e => k b ob (nl b ob e) (f.keep b ob e), f.fr, f.fn, f.gl, f.bl, fun p hp => ?_, ⟨_, hn, fun p hp => ?_, fun y a ds e => ?_⟩⟩
  · obtain ⟨h1, ob, e, cc⟩ := f.cl p hp
    exact ⟨h1, ob, k _ _ h1 e, cc⟩
  · rcases List.mem_cons.mp hp with rfl | hp
    · exact ⟨v, ⟨hd, .inl ⟨hk, by simp⟩⟩, hr⟩
    · obtain ⟨hp, hne⟩ := kp p hp
      obtain ⟨m', hm', hs', _⟩ := f.ns
      cases meq m' hm'
      obtain ⟨u, ⟨h1, h2⟩, h3⟩ := hs' p hp
      refine ⟨u, ⟨h1, h2.imp (fun q => ⟨q.1, by simp only [if_neg hne]; exact q.2⟩) ?_⟩, rd h3⟩
      rintro ⟨c, ob, e1, e2, e3, e4, e5⟩
      have hc : c ≠ env.locals := (f.cl _ (lookup_mem e3)).1
      exact ⟨c, ob, e1, e2, e3, k c ob hc e4, e5⟩
  · obtain ⟨m', hm', _, ho'⟩ := f.ns
    cases meq m' hm'
    obtain ⟨h1, h2, h3, h3', h4, vs, h5, h6⟩ := ho' y a ds e
    have : y ≠ x := ho y a ds e
    refine ⟨h1, h2, h3, h3', by simp only [if_neg this]; exact h4, vs, ?_, h6⟩
    exact h5.at fun ob e => k a ob (fun q => h2 (by rw [q]; exact .head _)) e
theorem walkB {I : Addr} {fp wr : List Addr} {n : Nat} {PV : Nat → Value → Prop} {S : Nat → Heap → Prop} (W : Walks prg w A I fp wr n PV S) : Walks prg w A I fp wr n (fun i v => i < n ∧ PV i v) S where
  sub := W.sub
  frame := W.frame
  item := fun i s Q E hi st hQ => W.item i s Q E hi st fun v h' tk hP hs hk => hQ v h' tk ⟨hi, hP⟩ hs hk
  done := W.done
  self := W.self
theorem mem_of_get {ds : List D} {i : Nat} {d : D} (h : ds[i]? = some d) : d ∈ ds := List.mem_of_getElem? h
/-- the facts of a comprehension -/
structure Cm (env : Env) (scope : Scope) (x : Str) (cl : List (Str × Addr)) : Prop where
  clos : closureFor scope env = pure cl
  cell : ∀ y ∈ scope.names, y.2 ≠ .cell
  kind : scope.kind = .function
  names : ∀ y ∈ scope.names, y.2 = .local → scope.names.lookup y.1 = some .local
  hx : scope.names.lookup x = some .local
  hd : dbg x
theorem ev_comp {elt iter : Expr} {x : Str} {px pos : Pos} {scope : Scope} {cl : List (Str × Addr)} {σf : St} {ds : List D} {fn : D → D} (hi : Itr w A env σ o iter ds) (C : Cm env scope x cl) (S : Sees env scope cl σ σf) (hz : ds.length ≤ 100000)
    (hf : ∀ d ∈ ds, isIm (fn d) = true) (he : ∀ d ∈ ds, ∀ C, Ev w A (compEnvC scope cl C env) ((x, d) :: σf) none elt (fn d)) (hs : ∀ v, foldedSetIterable iter env v = pure v) :
    Ev w A env σ o (.ListComp elt [⟨.Name x px, iter, [], 0⟩] scope pos) (.list (ds.map fn)) := by
  refine ⟨fun g s f => ?_⟩
  refine wpAny_ListComp_free (fun _ => true) (fun v y => ∀ d, Im v d → Im y (fn d)) C.clos C.cell C.kind C.names C.hx (wpF (hi.out g s f) fun xv s₁ h₁ => wpF h₁ fun it s₂ h₂ => ?_) hs
  obtain ⟨k₂, I, fp, wr, PV, St', rfl, W, S0, hwr, hfp⟩ := h₂
  refine ⟨I, fp, wr, ds.length, _, St', rfl, walkB W.walk, by rw [sizeLine_eq]; omega, S0, fun b hb => ?_, quietComp (fp := fp) (St' := St') (I := I) f k₂ hwr C.hd C.kind C.hx S (fun i v hP => ?_) hf he, ?_⟩
  · obtain ⟨ob, e⟩ := W.exs _ _ S0 b hb
    exact Heap.lt_size e
  · obtain ⟨d, hd, im⟩ := W.im i v hP.1 hP.2
    exact ⟨d, mem_of_get hd, im⟩
  · intro D h' tk ys vs hD hl hpl hlen hP hF hk
    have up : ∀ b ob, s.heap.get? b = some ob → h'.get? b = some ob := fun b ob e => hk b ob (fun q => by rw [hwr b q] at e; cases e) (kHeap k₂ b ob e)
    have kk : Keeps s { s₂ with heap := h', toks := tk } := by
      obtain ⟨h2, t2, e, _⟩ := k₂
      subst e
      exact ⟨h', tk, rfl, up⟩
    refine ⟨kk, D, ys.toList, rfl, fun q => ?_, by simpa using hpl, ?_⟩
    · obtain ⟨ob, e⟩ := f.badIn q
      rw [kHeap k₂ _ _ e] at hD; cases hD
    · have hF' : Paired (fun v y => ∀ d, Im v d → Im y (fn d)) vs ys.toList := by
        rw [List.filter_eq_self.mpr (fun _ _ => rfl)] at hF
        exact hF
      refine paired_imL hF' hlen fun j v d e1 e2 => ?_
      obtain ⟨d', hd', im⟩ := W.im j v (hP j v e1).1 (hP j v e1).2
      rw [e2] at hd'; cases hd'; exact im
/-- y = [..]: stored at once -/
theorem ex_comp {elt iter : Expr} {x y : Str} {px py pos spos : Pos} {scope : Scope} {cl : List (Str × Addr)} {σf : St} {ds : List D} {fn : D → D} (hi : Itr w A env σ o iter ds) (C : Cm env scope x cl) (S : Sees env scope cl σ σf) (hz : ds.length ≤ 100000)
    (hf : ∀ d ∈ ds, isIm (fn d) = true) (he : ∀ d ∈ ds, ∀ C, Ev w A (compEnvC scope cl C env) ((x, d) :: σf) none elt (fn d)) (hs : ∀ v, foldedSetIterable iter env v = pure v)
    (hsw : env.scope.kind = .function → swapsWith (.ListComp elt [⟨.Name x px, iter, [], 0⟩] scope pos) (some (.Name y py)) spos.line env = pure true) (hk : env.kindOf y = some .local) (hd : dbg y) (kp : Kq y σ σ') (ho : OwnNot o y)
    (h : P .next ((y, .list (ds.map fn)) :: σ') o) : Ex1 w A env σ o (.Assign [.Name y py] (.ListComp elt [⟨.Name x px, iter, [], 0⟩] scope pos) spos) P := by
  refine ⟨fun g s f => ?_⟩
  refine wpAny_Assign_ListComp_free (fun _ => true) (fun v y => ∀ d, Im v d → Im y (fn d)) (hsw f.fn) C.clos C.cell C.kind C.names C.hx hk (notClass f) (wpF (hi.out g s f) fun xv s₁ h₁ => wpF h₁ fun it s₂ h₂ => ?_) hs
  obtain ⟨k₂, I, fp, wr, PV, St', rfl, W, S0, hwr, hfp⟩ := h₂
  obtain ⟨m, hns, _⟩ := f.ns
  have inS : ∀ b ob, s.heap.get? b = some ob → b ∉ wr := fun b ob e q => by rw [hwr b q] at e; cases e
  have hL : env.locals ∉ wr := by obtain ⟨ob, _, _, e, _⟩ := hns; exact inS _ _ e
  refine ⟨I, fp, wr, ds.length, _, St', m, rfl, walkB W.walk, by rw [sizeLine_eq]; omega, S0, fun b hb => ?_, hL, hns.keeps (kHeap k₂), quietComp (fp := fp) (St' := St') (I := I) f k₂ hwr C.hd C.kind C.hx S (fun i v hP => ?_) hf he, ?_⟩
  · obtain ⟨ob, e⟩ := W.exs _ _ S0 b hb
    exact Heap.lt_size e
  · obtain ⟨d, hd, im⟩ := W.im i v hP.1 hP.2
    exact ⟨d, mem_of_get hd, im⟩
  · intro D h' tk ys vs hD hl hpl hlen hP hF hn' hk'
    have up : ∀ b ob, b ≠ env.locals → s.heap.get? b = some ob → h'.get? b = some ob := fun b ob hb e => hk' b ob hb (inS b ob e) (kHeap k₂ b ob e)
    have hF' : Paired (fun v y => ∀ d, Im v d → Im y (fn d)) vs ys.toList := by
      rw [List.filter_eq_self.mpr (fun _ _ => rfl)] at hF
      exact hF
    have rd : Rd (bad env o) h' (.ref D) (.list (ds.map fn)) := by
      refine ⟨D, ys.toList, rfl, fun q => ?_, by simpa using hpl, ?_⟩
      · obtain ⟨ob, e⟩ := f.badIn q
        rw [kHeap k₂ _ _ e] at hD; cases hD
      · refine paired_imL hF' hlen fun j v d e1 e2 => ?_
        obtain ⟨d', hd', im⟩ := W.im j v (hP j v e1).1 (hP j v e1).2
        rw [e2] at hd'; cases hd'; exact im
    refine ⟨.next, _, _, h, ?_, f.storeK hns hn' up rd hk hd kp ho, rfl⟩
    obtain ⟨h2, t2, e, _⟩ := k₂
    subst e
    exact ⟨h', tk, rfl⟩
theorem swaps {elt iter : Expr} {x y : Str} {px py pos : Pos} {scope : Scope} {line : Nat} (hf : env.scope.kind = .function) (hk : env.kindOf y = some .local) (hl : (py.line == pos.line) = true) (hn : (scope.names.any fun (n, k) => n == y && (k == .local || k == .cell)) = false) :
    swapsWith (.ListComp elt [⟨.Name x px, iter, [], 0⟩] scope pos) (some (.Name y py)) line env = pure true := by
  show (pure (env.blockKind == .function && env.kindOf y == some .local && py.line == pos.line && !(scope.names.any fun (n, k) => n == y && (k == .local || k == .cell))) : Sem Bool) = _
  have hb : env.blockKind = .function := by unfold Env.blockKind; rw [hf]; rfl
  rw [hb, hk, hn]
  rw [show (py.line == pos.line) = true from hl]
  rfl
end
end Mine
end
section
open PySem PySem.W PyProof.Rows
set_option Elab.async false
set_option maxRecDepth 100000
set_option linter.unusedVariables false
namespace Mine
section
variable {w : World} {A : Around} {env : Env} {σ σ' : St} {o : Own} {P : Post}
/-- a cell is stored -/
theorem Fm.storeCell {x : Str} {c : Addr} {v : Value} {d : D} {g h h' : Heap} (f : Fm w env σ o g h) (one : env.cells = [(x, c)]) (hv : h'.IsCell c (some v)) (hs : Heap.SameBut c h h') (hr : Rd (Mine.bad env o) h v d)
    (hk : env.kindOf x = some .cell) (hd : dbg x) (hx : x ≠ "__classdict__") (kp : Kq x σ σ') : Fm w env ((x, d) :: σ') o g h' := by
  have hm : (x, c) ∈ env.cells := by rw [one]; exact .head _
  have hcf : c ∈ fad env := .tail _ (List.mem_map_of_mem (f := (·.2)) hm)
  have hcl : c ≠ env.locals := (f.cl _ hm).1
  have ng : ∀ b ob, g.get? b = some ob → b ≠ c := fun b ob e q => by rw [q, f.fr c hcf] at e; cases e
  have rd : ∀ {v : Value} {d : D}, Rd (Mine.bad env o) h v d → Rd (Mine.bad env o) h' v d := by
    intro v d r
    cases d with
    | list ds =>
      obtain ⟨a, vs, e, nb, hl, hi⟩ := r
      refine ⟨a, vs, e, nb, hl.at fun ob e => (hs.2 a fun q => nb (.inl (q ▸ hcf))).trans e, hi⟩
    | _ => exact r
  obtain ⟨m, hn, hσ, ho⟩ := f.ns
  refine ⟨f.gd, fun b ob e => (hs.2 b (ng b ob e)).trans (f.keep b ob e), f.fr, f.fn, f.gl, f.bl, fun p hp => ?_, m, hn.sameBut hs (fun q => hcl q.symm), fun p hp => ?_, fun y a ds e => ?_⟩
  · rw [one] at hp
    rw [List.mem_singleton.mp hp]
    obtain ⟨ob, e1, e2⟩ := hv
    exact ⟨hcl, ob, e1, _, e2⟩
  · rcases List.mem_cons.mp hp with rfl | hp
    · obtain ⟨ob, e1, e2⟩ := hv
      exact ⟨v, ⟨hd, .inr ⟨c, ob, .inl hk, hx, by rw [one]; simp, e1, e2⟩⟩, rd hr⟩
    · obtain ⟨hp, hne⟩ := kp p hp
      obtain ⟨u, ⟨h1, h2⟩, h3⟩ := hσ p hp
      refine ⟨u, ⟨h1, h2.imp id ?_⟩, rd h3⟩
      rintro ⟨c', ob, e1, e2, e3, e4, e5⟩
      have := lookup_mem e3
      rw [one] at this
      have := List.mem_singleton.mp this
      exact absurd (congrArg Prod.fst this) hne
  · obtain ⟨h1, h2, h3, h3', h4, vs, h5, h6⟩ := ho y a ds e
    refine ⟨h1, h2, h3, h3', h4, vs, h5.at fun ob e => (hs.2 a fun q => h2 (q ▸ hcf)).trans e, h6⟩
theorem ex_assignC {x : Str} {c : Addr} {p pos : Pos} {e : Expr} {d : D} (he : Ev w A env σ o e d) (one : env.cells = [(x, c)]) (kp : Kq x σ σ') (hk : env.kindOf x = some .cell) (hd : dbg x) (hx : x ≠ "__classdict__")
    (hsw : swapsWith e (some (.Name x p)) pos.line env = pure false) (h : P .next ((x, d) :: σ') o) : Ex1 w A env σ o (.Assign [.Name x p] e pos) P := by
  refine ⟨fun g s f => ?_⟩
  refine wpAny_Assign_Name (wpF (he.out g s f) fun v s₁ q₁ => ?_) hsw
  have f1 := f.mono (kHeap q₁.1)
  obtain ⟨_, ob, e1, u, e2⟩ := f1.cl (x, c) (by rw [one]; exact .head _)
  refine wpAny_storeName_cell f.fn hk (c := c) (v₀ := u) (by rw [one]; simp) ⟨ob, e1, e2⟩ fun h' hv hs => ?_
  have f2 := f1.storeCell one hv hs q₁.2 hk hd hx kp
  obtain ⟨h1, t1, rfl, _⟩ := q₁.1
  exact ⟨.next, _, _, h, ⟨h', _, rfl⟩, f2, rfl⟩
/-- a str's signs -/
theorem itr_str {e : Expr} {x : Str} (he : Ev w A env σ o e (.str x)) (hA : A.handled = none) : Itr w A env σ o e (dS (x.cps.toList.map fun c => ⟨#[c]⟩)) := by
  refine ⟨fun g s f => ?_⟩
  refine wpF (he.out g s f) fun v s₁ q => ?_
  obtain ⟨k, t, rfl⟩ := q
  have f1 := f.mono (kHeap k)
  cases ha : x.cps.all (· < 128) with
  | true =>
    refine wpAny_pyIter_ascii ha ?_
    have W := Walks.strAscii (prog := prg) (w := w) (A := A) hA s₁.heap.objs.size x t
    have hl : (dS (x.cps.toList.map fun c => ⟨#[c]⟩)).length = x.cps.size := by simp
    rw [← hl] at W
    refine ⟨kTrans k (kMk (t := s₁.toks) fun b ob e => Heap.get?_push_of_some _ e), s₁.heap.objs.size, [s₁.heap.objs.size], [s₁.heap.objs.size], _, _, rfl, ⟨W, ?_, ?_, ?_⟩, ?_, ?_, ?_⟩
    · rintro i v hlt ⟨c, u, hc, rfl⟩
      refine ⟨.str ⟨#[c]⟩, ?_, u, rfl⟩
      simp [dS, hc]
    · rintro i h ⟨ob, e1, e2, _⟩ b hb
      rw [List.mem_singleton.mp hb]
      exact ⟨ob, e1, by rw [e2]; intro q; exact absurd (Value.type.inj q) (by decide)⟩
    · rintro i h ⟨ob, e1, _⟩ b hb
      rw [List.mem_singleton.mp hb]; exact ⟨ob, e1⟩
    · exact ⟨_, Heap.get?_push_size _ rfl, rfl, rfl⟩
    · intro b hb
      rw [List.mem_singleton.mp hb]
      cases q : s.heap.get? s₁.heap.objs.size with
      | none => rfl
      | some ob => exact absurd (Heap.lt_size (kHeap k _ _ q)) (Nat.lt_irrefl _)
    · intro b hb
      rw [List.mem_singleton.mp hb]
      exact fresh_not fun a b => f1.badIn b
  | false =>
    refine wpAny_pyIter_wide ha ?_
    have W := Walks.strWide (prog := prg) (w := w) (A := A) hA s₁.heap.objs.size x t
    have hl : (dS (x.cps.toList.map fun c => ⟨#[c]⟩)).length = x.cps.size := by simp
    rw [← hl] at W
    refine ⟨kTrans k (kMk (t := s₁.toks) fun b ob e => Heap.get?_push_of_some _ e), s₁.heap.objs.size, [s₁.heap.objs.size], [s₁.heap.objs.size], _, _, rfl, ⟨W, ?_, ?_, ?_⟩, ?_, ?_, ?_⟩
    · rintro i v hlt ⟨c, u, hc, rfl⟩
      refine ⟨.str ⟨#[c]⟩, ?_, u, rfl⟩
      simp [dS, hc]
    · rintro i h ⟨ob, e1, e2, _⟩ b hb
      rw [List.mem_singleton.mp hb]
      exact ⟨ob, e1, by rw [e2]; intro q; exact absurd (Value.type.inj q) (by decide)⟩
    · rintro i h ⟨ob, e1, _⟩ b hb
      rw [List.mem_singleton.mp hb]; exact ⟨ob, e1⟩
    · exact ⟨_, Heap.get?_push_size _ rfl, rfl, rfl⟩
    · intro b hb
      rw [List.mem_singleton.mp hb]
      cases q : s.heap.get? s₁.heap.objs.size with
      | none => rfl
      | some ob => exact absurd (Heap.lt_size (kHeap k _ _ q)) (Nat.lt_irrefl _)
    · intro b hb
      rw [List.mem_singleton.mp hb]
      exact fresh_not fun a b => f1.badIn b
theorem strVals_im : ∀ (l : List (Str × Tok)), ImL (strValues l) (dS (l.map (·.1)))
  | [] => trivial
  | p :: l => ⟨⟨p.2, rfl⟩, strVals_im l⟩
/-- what a frame owns is no list -/
theorem Fm.notList {g h : Heap} (f : Fm w env σ none g h) {a : Addr} {its : Array Value} (hl : h.IsList a its) : ¬ bad env none a := by
  obtain ⟨ob, e1, e2, n, e3⟩ := hl
  rintro (q | ⟨_, _, q⟩)
  · rcases List.mem_cons.mp q with rfl | q
    · obtain ⟨m, ⟨ob', es, ep, e1', e2', _⟩, _⟩ := f.ns
      rw [e1] at e1'; cases e1'
      rw [e3] at e2'; cases e2'
    · obtain ⟨p, hp, rfl⟩ := List.mem_map.mp q
      obtain ⟨_, ob', e1', u, e2'⟩ := f.cl p hp
      rw [e1] at e1'; cases e1'
      rw [e3] at e2'; cases e2'
  · cases q
/-- for .. in x.split(y) -/
theorem itr_split {ob e : Expr} {apos pos : Pos} {x y : Str} (ho : Ev w A env σ none ob (.str x)) (he : Ev w A env σ none e (.str y)) (hA : A.handled = none) (hy : (y.length == 0) = false)
    (hsz : x.length ≤ sizeLine) (hsz2 : (Builtin.Str.partsBetween x (Builtin.Str.occurrences x y 0 x.length (x.length + 1)) y.length).length ≤ sizeLine)
    (hs : starEach [e] env = [(false, eval e env)]) (hbase : attributeBase ob (Str.ofString "split") env (eval ob env) = eval ob env) (hline : (apos.endLine == pos.line) = true) :
    Itr w A env σ none (.Call (.Attribute ob (Str.ofString "split") apos) [e] [] pos) (dS (Txt.split x y)) := by
  refine ⟨fun g s f => Call_method1 hbase hs hline (wpF (ho.out g s f) fun ov s₁ q₁ => ?_)⟩
  obtain ⟨k1, t, rfl⟩ := q₁
  refine ⟨"str", "str.split", F.plainAttrs_str, F.slot_str_split, F.type_str_split, typeIs_str _ _ _, (fun ad e => nomatch e), ?_⟩
  refine Calls.callWith_builtin rfl (Calls.evalArgs_plain (Calls.spliced_cons (wpF (he.out g s₁ (f.mono (kHeap k1))) fun v s₂ q₂ => Calls.spliced_nil ?_)))
  obtain ⟨k2, u, rfl⟩ := q₂
  have k := kTrans k1 k2
  refine SCH.split1 (P := fun h' => ∀ b ob, s₂.heap.get? b = some ob → h'.get? b = some ob) (fun h ob p b ob' e => Heap.get?_push_of_some _ (p b ob' e)) (fun _ _ e => e) hy (fun D l h' tk hl hP hD => ?_) hsz hsz2
  have k3 : Keeps s { s₂ with heap := h', toks := tk } := kTrans k (kMk hP)
  have f3 := f.mono (kHeap k3)
  have nb := f3.notList hD
  refine wpAny_pyIter_list hD ?_
  obtain ⟨ob0, ho0, hc0, n0, hd0⟩ := id hD
  have hne : D ≠ h'.objs.size := Nat.ne_of_lt (Heap.lt_size ho0)
  have W := Walks.list (prog := prg) (w := w) (A := A) hA h'.objs.size D hne (strValues l).toArray
  have im := strVals_im l
  rw [hl] at im
  rw [show (strValues l).toArray.size = (dS (Txt.split x y)).length from List.size_toArray.trans im.length] at W
  refine ⟨kTrans k3 (kMk (t := tk) fun b ob e => Heap.get?_push_of_some _ e), h'.objs.size, [h'.objs.size, D], [h'.objs.size], _, _, rfl, ⟨W, ?_, ?_, ?_⟩, ?_, ?_, ?_⟩
  · intro i v hlt hv
    have hv' : (strValues l)[i]? = some v := by simpa using hv
    exact im.getV hv'
  · rintro i h ⟨⟨ob, e1, e2, _⟩, _⟩ b hb
    rw [List.mem_singleton.mp hb]
    exact ⟨ob, e1, by rw [e2]; intro q; exact absurd (Value.type.inj q) (by decide)⟩
  · rintro i h ⟨⟨ob, e1, _⟩, ⟨ob2, e2, _⟩⟩ b hb
    rcases List.mem_cons.mp hb with rfl | hb
    · exact ⟨ob, e1⟩
    · rw [List.mem_singleton.mp hb]; exact ⟨ob2, e2⟩
  · exact ⟨⟨_, Heap.get?_push_size _ rfl, rfl, rfl⟩, ⟨ob0, Heap.get?_push_of_some _ ho0, hc0, n0, hd0⟩⟩
  · intro b hb
    rw [List.mem_singleton.mp hb]
    cases q : s.heap.get? h'.objs.size with
    | none => rfl
    | some ob => exact absurd (Heap.lt_size (kHeap k3 _ _ q)) (Nat.lt_irrefl _)
  · intro b hb
    rcases List.mem_cons.mp hb with rfl | hb
    · exact fresh_not fun a b => f3.badIn b
    · rw [List.mem_singleton.mp hb]; exact nb
/-- slices of a str -/
theorem ev_sslTo {v e : Expr} {p pos : Pos} {x : Str} {k : Int} (hv : Ev w A env σ o v (.str x)) (he : Ev w A env σ o e (.int k)) (hz : x.length ≤ 1000000) : Ev w A env σ o (.Subscript v (.Slice none (some e) none p) pos) (.str (Txt.slice x none (some k))) := by
  refine ⟨fun g s f => ?_⟩
  refine Subscript_ (wpF (hv.out g s f) fun va s₁ q₁ => ?_)
  obtain ⟨k1, t, rfl⟩ := q₁
  show wpAny _ A (do
    let l ← valueOrNone (evalOpt none env)
    let u ← holding [l] (valueOrNone (evalOpt (some e) env))
    let st ← holding [l, u] (valueOrNone (evalOpt none env))
    newFields "slice" [l, u, st]) _ _ s₁
  refine wpAny_bind (wpAny_pure (wpAny_bind (wpAny_holding (wpF (he.out g s₁ (f.mono (kHeap k1))) fun vi s₂ q₂ => wpAny_bind (wpAny_holding (wpAny_pure ?_))))))
  obtain ⟨k2, t2, rfl⟩ := q₂
  have k3 := kTrans k1 k2
  refine wpAny_newObj_type ?_
  obtain ⟨T, id, hl, hT, hg⟩ := SBH.sliceItem_ns (prog := prg) (w := w) (A := A) (E := fun _ _ => False) (s := s₂) (x := x) (t := t) (j := k) (uj := t2) (P := fun h' => ∀ b ob, s₂.heap.get? b = some ob → h'.get? b = some ob)
    (Q := fun v s' => Keeps s s' ∧ Rd (Mine.bad env o) s'.heap v (.str (Txt.slice x none (some k)))) (fun h ob p b ob' e => Heap.get?_push_of_some _ (p b ob' e)) (fun _ _ e => e) (fun h' t' tk hP => ⟨kTrans k3 (kMk hP), _, rfl⟩) (by rw [sizeLine_eq]; omega)
  exact tail_any hT hl hg rfl
theorem ev_sslFrom {v e : Expr} {p pos : Pos} {x : Str} {k : Int} (hv : Ev w A env σ o v (.str x)) (he : Ev w A env σ o e (.int k)) (hz : x.length ≤ 1000000) : Ev w A env σ o (.Subscript v (.Slice (some e) none none p) pos) (.str (Txt.slice x (some k) none)) := by
  refine ⟨fun g s f => ?_⟩
  refine Subscript_ (wpF (hv.out g s f) fun va s₁ q₁ => ?_)
  obtain ⟨k1, t, rfl⟩ := q₁
  show wpAny _ A (do
    let l ← valueOrNone (evalOpt (some e) env)
    let u ← holding [l] (valueOrNone (evalOpt none env))
    let st ← holding [l, u] (valueOrNone (evalOpt none env))
    newFields "slice" [l, u, st]) _ _ s₁
  refine wpAny_bind (wpF (he.out g s₁ (f.mono (kHeap k1))) fun vi s₂ q₂ => wpAny_bind (wpAny_holding (wpAny_pure (wpAny_bind (wpAny_holding (wpAny_pure ?_))))))
  obtain ⟨k2, t2, rfl⟩ := q₂
  have k3 := kTrans k1 k2
  refine wpAny_newObj_type ?_
  obtain ⟨T, id, hl, hT, hg⟩ := SBH.sliceItem_sn (prog := prg) (w := w) (A := A) (E := fun _ _ => False) (s := s₂) (x := x) (t := t) (i := k) (ui := t2) (P := fun h' => ∀ b ob, s₂.heap.get? b = some ob → h'.get? b = some ob)
    (Q := fun v s' => Keeps s s' ∧ Rd (Mine.bad env o) s'.heap v (.str (Txt.slice x (some k) none))) (fun h ob p b ob' e => Heap.get?_push_of_some _ (p b ob' e)) (fun _ _ e => e) (fun h' t' tk hP => ⟨kTrans k3 (kMk hP), _, rfl⟩) (by rw [sizeLine_eq]; omega)
  exact tail_any hT hl hg rfl
/-- two equal lists of strs -/
theorem c_eqL {ss : List Str} (hu : A.units < cLine) : Cmp w A .Eq (.list (dS ss)) (.list (dS ss)) true := by
  constructor; rintro bd s _ _ _ ⟨a, vs, rfl, _, ⟨n, hl⟩, hi⟩ ⟨b, us, rfl, _, ⟨n2, hl2⟩, hi2⟩
  have l1 := hi.length
  have l2 := hi2.length
  refine P.eq_list (e := fun _ => true) hl hl2 (by simp [l1, l2]) (fun j h1 h2 => ?_) hu ⟨kRefl s, by simp⟩
  have g1 : j < vs.length := by simpa using h1
  have g2 : j < us.length := by simpa using h2
  obtain ⟨d, hd, im⟩ := hi.getV (i := j) (v := vs[j]) (by simp [g1])
  obtain ⟨d', hd', im'⟩ := hi2.getV (i := j) (v := us[j]) (by simp [g2])
  rw [hd] at hd'; cases hd'
  have hj : j < ss.length := by rw [l1] at g1; simpa using g1
  simp [dS, hj] at hd
  subst hd
  obtain ⟨t, e1⟩ := im
  obtain ⟨u, e2⟩ := im'
  simp only [List.getElem_toArray, e1, e2]
  have := eqGives_str ss[j] ss[j] t u
  rw [beq_self_eq_true] at this
  exact this
end
/-- a def with one cell -/
structure FdC (w : World) (f : Addr) (fd : FuncData) (body : List Stmt) (x y : Str) : Prop where
  ho : ∃ oc od osl, (KK w).lookup f = some ⟨oc, od, .func fd, osl⟩
  hbody : fd.body = .stmts body
  hcd : codeIn (KK w) fd.code fd.qualname = true
  hgl : fd.globals = mainGlobals
  hbl : fd.builtins = builtinsNs
  hcl : fd.closure = []
  hdb : dbg x
  hloc : fd.scope.names.lookup x = some .local
  hcell : ∀ n, cellsFrom n fd.scope.names [] = [(y, n)]
  hbind : ∀ v, bindArgs fd ⟨[v], []⟩ = pure [(x, v)]
  hco : fd.scope.isCoroutine = false
  hgen : fd.scope.isGenerator = false
  hk : fd.scope.kind = .function
theorem cal_valC {w : World} {A : Around} {f : Addr} {fd : FuncData} {body : List Stmt} {x y : Str} {d r : D} (F : FdC w f fd body x y) (hA : Ok 1 A) (hr : isIm r = true)
    (h : ∀ env c, Kd env fd.scope.names → env.scope.kind = .function → env.cells = [(y, c)] → Ex w (A.deeper env) env [(x, d)] none body (fun fl _ _ => fl = .ret r)) : Cal w A (.ref f) [d] r := by
  constructor; intro bd s vs gd hbd rd
  obtain ⟨v, rfl, rv⟩ := rdl1 rd
  obtain ⟨oc, od, osl, ho⟩ := F.ho
  have fz : ∀ a, s.heap.objs.size ≤ a → s.heap.get? a = none := fun a ha => by
    cases q : s.heap.get? a with
    | none => rfl
    | some ob => exact absurd (Heap.lt_size q) (Nat.not_lt.mpr ha)
  refine wpAny_call (codeAny_call_cells (by have := hA.dep; omega) (gd.k _ _ ho) rfl gd.lim (codeRec_of gd.k F.hcd) F.hbody (F.hbind v) F.hcl (fun p hp => ?_) (fun s₁ X => ?_) F.hco F.hgen F.hk)
  · rw [List.mem_singleton.mp hp]; exact .inl F.hloc
  · have hcells : (callEnvC fd s.heap.objs.size f).cells = [(y, s.heap.objs.size + 1)] := F.hcell _
    have hkx : (callEnvC fd s.heap.objs.size f).kindOf x = some .local := F.hloc
    have hfad : fad (callEnvC fd s.heap.objs.size f) = [s.heap.objs.size, s.heap.objs.size + 1] := by
      show s.heap.objs.size :: ((callEnvC fd s.heap.objs.size f).cells.map (·.2)) = _
      rw [hcells]; rfl
    have fm : Fm w (callEnvC fd s.heap.objs.size f) [(x, d)] none s.heap s₁.heap := by
      refine ⟨gd, X.toInCall.keep, fun a ha => ?_, F.hk, F.hgl, F.hbl, fun p hp => ?_, _, X.toInCall.ns, fun p hp => ?_, fun _ _ _ e => nomatch e⟩
      · rw [hfad] at ha
        rcases List.mem_cons.mp ha with rfl | ha
        · exact fz _ (Nat.le_refl _)
        · rw [List.mem_singleton.mp ha]; exact fz _ (Nat.le_succ _)
      · have hp' := hp
        rw [hcells] at hp'
        have hp2 := List.mem_singleton.mp hp'
        subst hp2
        refine ⟨by show s.heap.objs.size + 1 ≠ s.heap.objs.size; omega, ?_⟩
        obtain ⟨ob, e1, e2⟩ := X.cell y (s.heap.objs.size + 1) (by rw [hcells]; simp)
        exact ⟨ob, e1, _, e2⟩
      · rw [List.mem_singleton.mp hp]
        refine ⟨v, ⟨F.hdb, .inl ⟨hkx, ?_⟩⟩, ?_⟩
        · show PySem.bindL _ [(x, v)] _ x = _
          unfold PySem.bindL PySem.bindL
          rw [if_pos hkx]; simp
        · clear hp
          cases d with
          | list ds₁ =>
            obtain ⟨a, vs', e, _, ⟨n, hl⟩, hi⟩ := rv
            refine ⟨a, vs', e, ?_, ⟨n, X.toInCall.keep _ _ hl⟩, hi⟩
            rintro (q | ⟨_, _, q⟩)
            · rw [hfad] at q
              rcases List.mem_cons.mp q with rfl | q
              · rw [fz _ (Nat.le_refl _)] at hl; cases hl
              · rw [List.mem_singleton.mp q, fz _ (Nat.le_succ _)] at hl; cases hl
            · cases q
          | _ => exact rv
    obtain ⟨h1, t1, e1⟩ := X.toInCall.same
    refine wpF ((h _ _ ⟨fun _ => rfl⟩ F.hk hcells).out s.heap _ fm) fun fl s' q => ?_
    obtain ⟨fl', σ', o', rfl, ⟨h', tk, rfl⟩, f', u, rfl, r'⟩ := q
    subst e1
    exact ⟨kMk f'.keep, Rd.ofIm (r'.im hr)⟩
end Mine
end
section
open PySem PySem.W PyProof.Rows
set_option Elab.async false
set_option maxRecDepth 100000
set_option linter.unusedVariables false
namespace Mine
open Sre
theorem runFor_fix : ∀ (n : Nat) (m : M), m.outcome.isSome = true → M.runFor n m = m
  | 0, _, _ => rfl
  | n + 1, m, h => by show (if m.outcome.isSome then m else _) = m; rw [if_pos h]
theorem runFor_add : ∀ (a b : Nat) (m : M), M.runFor (a + b) m = M.runFor b (M.runFor a m)
  | 0, b, m => by rw [Nat.zero_add]; rfl
  | a + 1, b, m => by
    by_cases h : m.outcome.isSome = true
    · rw [runFor_fix _ m h, runFor_fix _ m h, runFor_fix _ m h]
    · rw [show a + 1 + b = (a + b) + 1 from by omega]
      show (if m.outcome.isSome then m else M.runFor (a + b) m.step) = M.runFor b (if m.outcome.isSome then m else M.runFor a m.step)
      rw [if_neg h, if_neg h, runFor_add a b]
theorem runFor_one {m : M} (h : m.outcome = none) (n : Nat) : M.runFor (n + 1) m = M.runFor n m.step := by
  show (if m.outcome.isSome then m else _) = _
  rw [h]; rfl
theorem drive {MM : Model} {A : Around} {E : Value → Shared → Prop} {s : Shared} {Q : M → Shared → Prop} : ∀ (turns n : Nat) (m : M), n ≤ 4 * (turns + 1) → (M.runFor n m).outcome.isSome = true → Q (M.runFor n m) s → wpAny MM A (Builtin.Re.reDrive (turns + 1) m) Q E s
  | turns, n, m, hn, ho, hQ => by
    show wpAny MM A (if (M.runFor 4 m).outcome.isSome then pure (M.runFor 4 m) else do rule "sre.turn"; Builtin.Re.reDrive turns (M.runFor 4 m)) Q E s
    by_cases h : (M.runFor 4 m).outcome.isSome = true
    · rw [if_pos h]
      have : M.runFor n m = M.runFor 4 m := by
        by_cases hl : n ≤ 4
        · rw [show 4 = n + (4 - n) from by omega, runFor_add, runFor_fix _ _ ho]
        · rw [show n = 4 + (n - 4) from by omega, runFor_add, runFor_fix _ _ h]
      exact wpAny_pure (this ▸ hQ)
    · rw [if_neg h]
      have hl : ¬ n ≤ 4 := fun hl => h (by rw [show 4 = n + (4 - n) from by omega, runFor_add, runFor_fix _ _ ho]; exact ho)
      have e : M.runFor n m = M.runFor (n - 4) (M.runFor 4 m) := by rw [← runFor_add, show 4 + (n - 4) = n from by omega]
      refine wpAny_bind (wpAny_rule ?_)
      cases turns with
      | zero => exact absurd hn (by omega)
      | succ t =>
        rw [e] at ho hQ
        exact drive t (n - 4) _ (by omega) ho hQ
/-- the machine comes from m to m' in n steps -/
noncomputable def Goes (n : Nat) (m m' : M) : Prop := M.runFor n m = m'
theorem Goes.trans {a b : Nat} {m m' m'' : M} (h : Goes a m m') (k : Goes b m' m'') : Goes (a + b) m m'' := by
  unfold Goes at *
  rw [runFor_add, h, k]
theorem Goes.step {m m' : M} (h : m.outcome = none) (e : m.step = m') : Goes 1 m m' := by
  unfold Goes
  rw [runFor_one h, e]; rfl
noncomputable def code1 : Array Nat := #[14, 4, 0, 1, 1, 6, 1, 16, 46, 1]
noncomputable def code2 : Array Nat := #[14, 9, 4, 1, 2, 16, 10, 16, 13, 0, 7, 7, 16, 13, 16, 10, 15, 18, 5, 16, 10, 15, 13, 11, 16, 13, 5, 5, 0, 16, 10, 1, 15, 2, 0, 1]
/-- a state of pattern 1 -/
noncomputable def st1 (T : Array Nat) (s : Nat) (ma o : Bool) (sn : Sre.Seen) (pc pos handed : Nat) (fs : List Sre.Frame) (wt : Nat) (an : Option Bool) (oc : Option Sre.Outcome) : M :=
  { code := code1, text := T, lim := T.size, start := s, lastStart := T.size, mustAdvance := ma, pc := pc, pos := pos, handed := handed, outermost := o, marks := #[], frames := fs, weight := wt, answer := an, seen := sn, outcome := oc }
noncomputable def fr1 (s : Nat) (o : Bool) : Sre.Frame := { wait := .nextStart, pc := 5, pos := s, outermost := o }
/-- pattern 1, about to try at s -/
noncomputable def at1 (T : Array Nat) (s : Nat) (ma o : Bool) (sn : Sre.Seen) : M := st1 T s ma o sn 5 s s [fr1 s o] 1 none none
theorem s1_at {T : Array Nat} {s : Nat} {ma o : Bool} {sn : Sre.Seen} {hd wt : Nat} {fs : List Sre.Frame} : ∃ sn', (st1 T s ma o sn 5 s hd fs wt none none).step = if (s == 0 || T.getD (s - 1) 0 == 10) = true then st1 T s ma o sn' 7 s hd fs wt none none else st1 T s ma o sn' 5 s hd fs wt (some false) none := ⟨_, rfl⟩
theorem s1_lit {T : Array Nat} {s : Nat} {ma o : Bool} {sn : Sre.Seen} {hd wt : Nat} {fs : List Sre.Frame} : ∃ sn', (st1 T s ma o sn 7 s hd fs wt none none).step = if s ≥ T.size then st1 T s ma o sn' 7 s hd fs wt (some false) none else if (T.getD s 0 == 46) = true then st1 T s ma o sn' 9 (s + 1) hd fs wt none none else st1 T s ma o sn' 7 s hd fs wt (some false) none := by
  refine ⟨sn.add 16, ?_⟩
  by_cases h : s ≥ T.size
  · rw [if_pos h]
    show (if s ≥ T.size then _ else _) = _
    rw [if_pos h]; rfl
  · rw [if_neg h]
    show (if s ≥ T.size then _ else _) = _
    rw [if_neg h]
    cases hc : (T.getD s 0 == 46) with
    | true =>
      rw [if_pos rfl]
      show (match (Except.ok (T.getD s 0 == 46, sn.add 16) : Except String (Bool × Sre.Seen)) with | .error why => _ | .ok (false, seen) => _ | .ok (true, seen) => _) = _
      rw [hc]; rfl
    | false =>
      rw [if_neg (by decide)]
      show (match (Except.ok (T.getD s 0 == 46, sn.add 16) : Except String (Bool × Sre.Seen)) with | .error why => _ | .ok (false, seen) => _ | .ok (true, seen) => _) = _
      rw [hc]; rfl
theorem s1_succ {T : Array Nat} {s : Nat} {ma o : Bool} {sn : Sre.Seen} {hd wt : Nat} {fs : List Sre.Frame} : ∃ sn', (st1 T s ma o sn 9 (s + 1) hd fs wt none none).step = st1 T s ma o sn' 9 (s + 1) (s + 1) fs wt (some true) none := by
  refine ⟨sn.add 1, ?_⟩
  show (if (o && ((false && (s + 1 != T.size)) || (ma && (s + 1 == s)))) = true then _ else _) = _
  rw [show (s + 1 == s) = false from by simp]
  rw [show (o && ((false && (s + 1 != T.size)) || (ma && false))) = false from by simp]
  rfl
theorem s1_yes {T : Array Nat} {s : Nat} {ma o o' : Bool} {sn : Sre.Seen} {pc pos hd : Nat} : (st1 T s ma o' sn pc pos hd [fr1 s o] 1 (some true) none).step = st1 T s ma o sn 5 s hd [] 0 (some true) none := rfl
theorem s1_end {T : Array Nat} {s : Nat} {ma o b : Bool} {sn : Sre.Seen} {pc pos hd wt : Nat} : (st1 T s ma o sn pc pos hd [] wt (some b) none).step = st1 T s ma o sn pc pos hd [] wt (some b) (some (if b then .matched else .failed)) := rfl
theorem s1_no {T : Array Nat} {s : Nat} {ma o o' : Bool} {sn : Sre.Seen} {pc pos hd : Nat} : (st1 T s ma o' sn pc pos hd [fr1 s o] 1 (some false) none).step = if s < T.size then at1 T (s + 1) false false sn else st1 T s ma o sn 5 s hd [] 0 (some false) none := rfl
noncomputable def isDot (T : Array Nat) (s : Nat) : Bool := (s == 0 || T.getD (s - 1) 0 == 10) && T.getD s 0 == 46
/-- the first place from s on -/
noncomputable def firstAt (p : Nat → Bool) : (fuel s : Nat) → Option Nat
  | 0, _ => none
  | k + 1, s => if p s = true then some s else firstAt p k (s + 1)
noncomputable def Ends (m : M) (r : Option Nat) (len : Nat → Nat) : Prop := match r with
  | some p => m.outcome = some .matched ∧ m.start = p ∧ m.handed = p + len p
  | none => m.outcome = some .failed
theorem go1 {T : Array Nat} : ∀ (k s : Nat) (ma o : Bool) (sn : Sre.Seen), s + k = T.size → ∃ n m', n ≤ 4 * k + 8 ∧ Goes n (at1 T s ma o sn) m' ∧ Ends m' (firstAt (isDot T) k s) (fun _ => 1)
  | 0, s, ma, o, sn, hk => by
    have hs : s ≥ T.size := by omega
    obtain ⟨sn1, e1⟩ := s1_at (T := T) (s := s) (ma := ma) (o := o) (sn := sn) (hd := s) (wt := 1) (fs := [fr1 s o])
    by_cases h1 : (s == 0 || T.getD (s - 1) 0 == 10) = true
    · rw [if_pos h1] at e1
      obtain ⟨sn2, e2⟩ := s1_lit (T := T) (s := s) (ma := ma) (o := o) (sn := sn1) (hd := s) (wt := 1) (fs := [fr1 s o])
      rw [if_pos hs] at e2
      refine ⟨_, _, ?_, (Goes.step rfl e1).trans ((Goes.step rfl e2).trans ((Goes.step rfl (s1_no.trans (if_neg (by omega)))).trans (Goes.step rfl s1_end))), rfl⟩
      omega
    · rw [if_neg h1] at e1
      refine ⟨_, _, ?_, (Goes.step rfl e1).trans ((Goes.step rfl (s1_no.trans (if_neg (by omega)))).trans (Goes.step rfl s1_end)), rfl⟩
      omega
  | k + 1, s, ma, o, sn, hk => by
    have hs : ¬ s ≥ T.size := by omega
    obtain ⟨sn1, e1⟩ := s1_at (T := T) (s := s) (ma := ma) (o := o) (sn := sn) (hd := s) (wt := 1) (fs := [fr1 s o])
    by_cases h1 : (s == 0 || T.getD (s - 1) 0 == 10) = true
    · rw [if_pos h1] at e1
      obtain ⟨sn2, e2⟩ := s1_lit (T := T) (s := s) (ma := ma) (o := o) (sn := sn1) (hd := s) (wt := 1) (fs := [fr1 s o])
      rw [if_neg hs] at e2
      by_cases h2 : (T.getD s 0 == 46) = true
      · rw [if_pos h2] at e2
        obtain ⟨sn3, e3⟩ := s1_succ (T := T) (s := s) (ma := ma) (o := o) (sn := sn2) (hd := s) (wt := 1) (fs := [fr1 s o])
        have hp : isDot T s = true := by unfold isDot; rw [h1, h2]; rfl
        refine ⟨_, _, ?_, (Goes.step rfl e1).trans ((Goes.step rfl e2).trans ((Goes.step rfl e3).trans ((Goes.step rfl s1_yes).trans (Goes.step rfl s1_end)))), ?_⟩
        · omega
        · unfold firstAt; rw [if_pos hp]; exact ⟨rfl, rfl, rfl⟩
      · rw [if_neg h2] at e2
        have hp : ¬ isDot T s = true := by unfold isDot; rw [Bool.and_eq_true]; exact fun q => h2 q.2
        obtain ⟨n, m', hn, hg, he⟩ := go1 (T := T) k (s + 1) false false sn2 (by omega)
        refine ⟨_, m', ?_, (Goes.step rfl e1).trans ((Goes.step rfl e2).trans ((Goes.step rfl (s1_no.trans (if_pos (by omega : s < T.size)))).trans hg)), ?_⟩
        · omega
        · unfold firstAt; rw [if_neg hp]; exact he
    · rw [if_neg h1] at e1
      have hp : ¬ isDot T s = true := by unfold isDot; rw [Bool.and_eq_true]; exact fun q => h1 q.1
      obtain ⟨n, m', hn, hg, he⟩ := go1 (T := T) k (s + 1) false false sn1 (by omega)
      refine ⟨_, m', ?_, (Goes.step rfl e1).trans ((Goes.step rfl (s1_no.trans (if_pos (by omega : s < T.size)))).trans hg), ?_⟩
      · omega
      · unfold firstAt; rw [if_neg hp]; exact he
/-- a search with pattern 1 -/
theorem search1 {T : Array Nat} {s : Nat} (hs : s ≤ T.size) : ∃ n m', n ≤ 4 * (T.size - s) + 9 ∧ Goes n (Sre.forSearch code1 T 0 s T.size false) m' ∧ Ends m' (firstAt (isDot T) (T.size - s) s) (fun _ => 1) := by
  by_cases h : s = T.size
  · have e : ∃ m, Sre.forSearch code1 T 0 s T.size false = m ∧ m.outcome = none ∧ m.answer = some false ∧ m.frames = [] := by
      refine ⟨_, if_pos (by simp [h]; decide), rfl, rfl, rfl⟩
    obtain ⟨m, e, h1, h2, h3⟩ := e
    refine ⟨1, { m with outcome := some .failed }, by omega, Goes.step (by rw [e]; exact h1) ?_, ?_⟩
    · rw [e]
      unfold M.step
      rw [h1, h2, h3]; rfl
    · rw [show T.size - s = 0 from by omega]; rfl
  · have e : Sre.forSearch code1 T 0 s T.size false = at1 T s false true (({} : Sre.Seen).add 14) := by
      refine (if_neg ?_).trans rfl
      have : ¬ (T.size - s < 1) := by omega
      simp; exact ⟨by omega, by show 1 ≤ _; omega⟩
    obtain ⟨n, m', hn, hg, he⟩ := go1 (T := T) (T.size - s) s false true (({} : Sre.Seen).add 14) (by omega)
    rw [e]
    exact ⟨n, m', by omega, hg, he⟩
end Mine
end
section
open PySem PySem.W PyProof.Rows
set_option Elab.async false
set_option maxRecDepth 100000
set_option linter.unusedVariables false
namespace Mine
open Sre
noncomputable def st2 (T : Array Nat) (s : Nat) (ma o : Bool) (sn : Sre.Seen) (pc pos handed : Nat) (fs : List Sre.Frame) (wt : Nat) (an : Option Bool) (oc : Option Sre.Outcome) : M :=
  { code := code2, text := T, lim := T.size, start := s, lastStart := T.size, mustAdvance := ma, pc := pc, pos := pos, handed := handed, outermost := o, marks := #[], frames := fs, weight := wt, answer := an, seen := sn, outcome := oc }
noncomputable def fr2 (s : Nat) (o : Bool) : Sre.Frame := { wait := .nextStart, pc := 10, pos := s, outermost := o }
noncomputable def frB (p : Nat) (o : Bool) (alt : Nat) : Sre.Frame := { wait := .nextBranch, pc := alt, pos := p, outermost := o, kept := { lastmark := -1, lastindex := -1, whole := false, marks := #[] } }
noncomputable def frL (p : Nat) (o : Bool) : Sre.Frame := { wait := .lookNot, pc := 26, pos := p, outermost := o, kept := { lastmark := -1, lastindex := -1, whole := false, marks := #[] } }
section
variable {T : Array Nat} {s : Nat} {ma o o' : Bool} {sn : Sre.Seen} {hd pos pc wt : Nat} {fs : List Sre.Frame}
theorem s2_br : ∃ sn', (st2 T s ma o sn 10 s hd [fr2 s o] 1 none none).step = st2 T s ma o sn' 12 s s [frB s o 11, fr2 s o] 2 none none := ⟨_, rfl⟩
theorem s2_lit (pc c : Nat) (h1 : pc < code2.size) (h0 : code2.getD (pc + 0) 0 = 16) (hc : code2.getD (pc + 1) 0 = c) : ∃ sn', (st2 T s ma o sn pc pos hd fs wt none none).step = if pos ≥ T.size then st2 T s ma o sn' pc pos hd fs wt (some false) none else if (T.getD pos 0 == c) = true then st2 T s ma o sn' (pc + 2) (pos + 1) hd fs wt none none else st2 T s ma o sn' pc pos hd fs wt (some false) none := by
  refine ⟨sn.add 16, ?_⟩
  have key : (st2 T s ma o sn pc pos hd fs wt none none).step = if pos ≥ T.size then st2 T s ma o (sn.add 16) pc pos hd fs wt (some false) none else
      match accepts code2 pc (T.getD pos 0) (sn.add 16) with
      | .error why => (st2 T s ma o (sn.add 16) pc pos hd fs wt none none).stick why
      | .ok (false, seen) => st2 T s ma o seen pc pos hd fs wt (some false) none
      | .ok (true, seen) => st2 T s ma o seen (pc + itemWidth code2 pc) (pos + 1) hd fs wt none none := by
    show (if pc < code2.size then M.exec _ else _) = _
    rw [if_pos h1]
    unfold M.exec M.word
    simp only [st2, h0]
    rfl
  have ea : accepts code2 pc (T.getD pos 0) (sn.add 16) = .ok (T.getD pos 0 == c, sn.add 16) := by
    unfold accepts
    rw [show code2.getD pc 0 = 16 from h0, hc]; rfl
  have ew : itemWidth code2 pc = 2 := by
    unfold itemWidth
    rw [show code2.getD pc 0 = 16 from h0]; rfl
  rw [key, ea, ew]
  by_cases h : pos ≥ T.size
  · rw [if_pos h, if_pos h]
  · rw [if_neg h, if_neg h]
    cases hb : (T.getD pos 0 == c) <;> rfl
theorem s2_no1 : (st2 T s ma o' sn pc pos hd [frB s o 11, fr2 s o] 2 (some false) none).step = st2 T s ma o sn 19 s s [frB s o 18, fr2 s o] 2 none none := rfl
theorem s2_no2 : (st2 T s ma o' sn pc pos hd [frB s o 18, fr2 s o] 2 (some false) none).step = st2 T s ma o sn 24 s s [frB s o 23, fr2 s o] 2 none none := rfl
theorem s2_not : ∃ sn', (st2 T s ma o sn 26 (s + 1) hd [frB s o 23, fr2 s o] 2 none none).step = st2 T s ma false sn' 29 (s + 1) (s + 1) [frL (s + 1) o, frB s o 23, fr2 s o] 3 none none := ⟨_, rfl⟩
theorem s2_look : (st2 T s ma o' sn pc pos hd [frL (s + 1) o, frB s o 23, fr2 s o] 3 (some false) none).step = st2 T s ma o sn 32 (s + 1) hd [frB s o 23, fr2 s o] 2 none none := rfl
theorem s2_j21 : ∃ sn', (st2 T s ma o sn 21 pos hd fs wt none none).step = st2 T s ma o sn' 35 pos hd fs wt none none := ⟨_, rfl⟩
theorem s2_j32 : ∃ sn', (st2 T s ma o sn 32 pos hd fs wt none none).step = st2 T s ma o sn' 35 pos hd fs wt none none := ⟨_, rfl⟩
theorem s2_succ : ∃ sn', (st2 T s ma o sn 35 (s + 1) hd fs wt none none).step = st2 T s ma o sn' 35 (s + 1) (s + 1) fs wt (some true) none := by
  refine ⟨sn.add 1, ?_⟩
  show (if (o && ((false && (s + 1 != T.size)) || (ma && (s + 1 == s)))) = true then _ else _) = _
  rw [show (s + 1 == s) = false from by simp]
  rw [show (o && ((false && (s + 1 != T.size)) || (ma && false))) = false from by simp]
  rfl
theorem s2_yesB {alt : Nat} : (st2 T s ma o' sn pc pos hd [frB s o alt, fr2 s o] 2 (some true) none).step = st2 T s ma o sn alt s hd [fr2 s o] 1 (some true) none := rfl
theorem s2_yes : (st2 T s ma o' sn pc pos hd [fr2 s o] 1 (some true) none).step = st2 T s ma o sn 10 s hd [] 0 (some true) none := rfl
theorem s2_end {b : Bool} : (st2 T s ma o sn pc pos hd [] wt (some b) none).step = st2 T s ma o sn pc pos hd [] wt (some b) (some (if b then .matched else .failed)) := rfl
end
noncomputable def isCL (T : Array Nat) (s : Nat) : Bool := T.getD s 0 == 10 || T.getD s 0 == 13
/-- no feed behind a return -/
noncomputable def NoPair (T : Array Nat) : Prop := ∀ i, i + 1 < T.size → T.getD i 0 = 13 → T.getD (i + 1) 0 ≠ 10
theorem go2 {T : Array Nat} {s : Nat} {ma o : Bool} {sn : Sre.Seen} (hs : s < T.size) (hc : isCL T s = true) (hn : NoPair T) : ∃ n m', n ≤ 20 ∧ Goes n (st2 T s ma o sn 10 s s [fr2 s o] 1 none none) m' ∧ m'.outcome = some .matched ∧ m'.start = s ∧ m'.handed = s + 1 := by
  obtain ⟨sn1, e1⟩ := s2_br (T := T) (s := s) (ma := ma) (o := o) (sn := sn) (hd := s)
  obtain ⟨sn2, e2⟩ := s2_lit (T := T) (s := s) (ma := ma) (o := o) (sn := sn1) (hd := s) (pos := s) (wt := 2) (fs := [frB s o 11, fr2 s o]) 12 13 (by decide) rfl rfl
  rw [if_neg (by omega)] at e2
  have tail : ∀ (alt : Nat) (sn : Sre.Seen) (hd : Nat), ∃ n m', n ≤ 4 ∧ Goes n (st2 T s ma o sn 35 (s + 1) hd [frB s o alt, fr2 s o] 2 none none) m' ∧ m'.outcome = some .matched ∧ m'.start = s ∧ m'.handed = s + 1 := by
    intro alt sn hd
    obtain ⟨sn', e⟩ := s2_succ (T := T) (s := s) (ma := ma) (o := o) (sn := sn) (hd := hd) (wt := 2) (fs := [frB s o alt, fr2 s o])
    exact ⟨_, _, by omega, (Goes.step rfl e).trans ((Goes.step rfl s2_yesB).trans ((Goes.step rfl s2_yes).trans (Goes.step rfl s2_end))), rfl, rfl, rfl⟩
  by_cases h13 : (T.getD s 0 == 13) = true
  · rw [if_pos h13] at e2
    have h10 : (T.getD s 0 == 10) = false := by
      have : T.getD s 0 = 13 := by simpa using h13
      rw [this]; rfl
    have nx : ∀ {A B : M}, (if s + 1 ≥ T.size then A else if (T.getD (s + 1) 0 == 10) = true then B else A) = A := by
      intro A B
      by_cases h : s + 1 ≥ T.size
      · rw [if_pos h]
      · rw [if_neg h, if_neg]
        have h13' : T.getD s 0 = 13 := by simpa using h13
        have := hn s (by omega) h13'
        intro q; exact this (by simpa using q)
    obtain ⟨sn3, e3⟩ := s2_lit (T := T) (s := s) (ma := ma) (o := o) (sn := sn2) (hd := s) (pos := s + 1) (wt := 2) (fs := [frB s o 11, fr2 s o]) 14 10 (by decide) rfl rfl
    rw [nx] at e3
    obtain ⟨sn5, e5⟩ := s2_lit (T := T) (s := s) (ma := ma) (o := o) (sn := sn3) (hd := s) (pos := s) (wt := 2) (fs := [frB s o 18, fr2 s o]) 19 10 (by decide) rfl rfl
    rw [if_neg (by omega), if_neg (by rw [h10]; decide)] at e5
    obtain ⟨sn7, e7⟩ := s2_lit (T := T) (s := s) (ma := ma) (o := o) (sn := sn5) (hd := s) (pos := s) (wt := 2) (fs := [frB s o 23, fr2 s o]) 24 13 (by decide) rfl rfl
    rw [if_neg (by omega), if_pos h13] at e7
    obtain ⟨sn8, e8⟩ := s2_not (T := T) (s := s) (ma := ma) (o := o) (sn := sn7) (hd := s)
    obtain ⟨sn9, e9⟩ := s2_lit (T := T) (s := s) (ma := ma) (o := false) (sn := sn8) (hd := s + 1) (pos := s + 1) (wt := 3) (fs := [frL (s + 1) o, frB s o 23, fr2 s o]) 29 10 (by decide) rfl rfl
    rw [nx] at e9
    obtain ⟨sn11, e11⟩ := s2_j32 (T := T) (s := s) (ma := ma) (o := o) (sn := sn9) (hd := s + 1) (pos := s + 1) (wt := 2) (fs := [frB s o 23, fr2 s o])
    obtain ⟨n, m', hn', hg, hm⟩ := tail 23 sn11 (s + 1)
    refine ⟨_, m', ?_, (Goes.step rfl e1).trans ((Goes.step rfl e2).trans ((Goes.step rfl e3).trans ((Goes.step rfl s2_no1).trans ((Goes.step rfl e5).trans ((Goes.step rfl s2_no2).trans ((Goes.step rfl e7).trans ((Goes.step rfl e8).trans ((Goes.step rfl e9).trans ((Goes.step rfl s2_look).trans ((Goes.step rfl e11).trans hg)))))))))), hm⟩
    omega
  · rw [if_neg h13] at e2
    have h10 : (T.getD s 0 == 10) = true := by
      unfold isCL at hc
      simp only [Bool.or_eq_true] at hc
      exact hc.resolve_right h13
    obtain ⟨sn5, e5⟩ := s2_lit (T := T) (s := s) (ma := ma) (o := o) (sn := sn2) (hd := s) (pos := s) (wt := 2) (fs := [frB s o 18, fr2 s o]) 19 10 (by decide) rfl rfl
    rw [if_neg (by omega), if_pos h10] at e5
    obtain ⟨sn6, e6⟩ := s2_j21 (T := T) (s := s) (ma := ma) (o := o) (sn := sn5) (hd := s) (pos := s + 1) (wt := 2) (fs := [frB s o 18, fr2 s o])
    obtain ⟨n, m', hn', hg, hm⟩ := tail 18 sn6 s
    refine ⟨_, m', ?_, (Goes.step rfl e1).trans ((Goes.step rfl e2).trans ((Goes.step rfl s2_no1).trans ((Goes.step rfl e5).trans ((Goes.step rfl e6).trans hg)))), hm⟩
    omega
theorem inSet2 (c : Nat) (sn : Sre.Seen) : ∃ sn', inSet code2 c code2.size 5 true sn = .ok (c == 10 || c == 13, sn') := by
  by_cases h1 : (c == 10) = true
  · refine ⟨sn.add 16, ?_⟩
    rw [h1]
    show (if (c == 10) = true then (.ok (true, sn.add 16) : Except String (Bool × Sre.Seen)) else _) = _
    rw [if_pos h1]; rfl
  · have h1' : (c == 10) = false := by simpa using h1
    by_cases h2 : (c == 13) = true
    · refine ⟨(sn.add 16).add 16, ?_⟩
      rw [h1', h2]
      show (if (c == 10) = true then (.ok (true, sn.add 16) : Except String (Bool × Sre.Seen)) else if (c == 13) = true then .ok (true, (sn.add 16).add 16) else _) = _
      rw [if_neg h1, if_pos h2]; rfl
    · have h2' : (c == 13) = false := by simpa using h2
      refine ⟨((sn.add 16).add 16).add 0, ?_⟩
      rw [h1', h2']
      show (if (c == 10) = true then (.ok (true, sn.add 16) : Except String (Bool × Sre.Seen)) else if (c == 13) = true then .ok (true, (sn.add 16).add 16) else .ok (false, ((sn.add 16).add 16).add 0)) = _
      rw [if_neg h1, if_neg h2]; rfl
theorem admitted2 (m : M) (T : Array Nat) (h1 : m.code = code2) (h2 : m.text = T) (h3 : m.lim = T.size) : ∀ (k s : Nat) (sn : Sre.Seen), s + k = T.size → ∃ sn', M.admitted m (k + 1) s sn = .ok (firstAt (isCL T) k s, sn')
  | 0, s, sn, hk => ⟨sn, by unfold M.admitted; rw [if_pos (by rw [h3]; omega)]; rfl⟩
  | k + 1, s, sn, hk => by
    unfold M.admitted
    rw [if_neg (by rw [h3]; omega), h1, h2]
    obtain ⟨sn1, e⟩ := inSet2 (T.getD s 0) sn
    rw [e]
    have : (T.getD s 0 == 10 || T.getD s 0 == 13) = isCL T s := rfl
    rw [this]
    by_cases h : isCL T s = true
    · rw [h]
      refine ⟨sn1, ?_⟩
      unfold firstAt
      rw [if_pos h]
    · have h' : isCL T s = false := by simpa using h
      rw [h']
      obtain ⟨sn2, e2⟩ := admitted2 m T h1 h2 h3 k (s + 1) sn1 (by omega)
      refine ⟨sn2, ?_⟩
      unfold firstAt
      rw [if_neg h]
      exact e2
/-- a search with pattern 2 -/
theorem firstAt_some {p : Nat → Bool} : ∀ {k s r : Nat}, firstAt p k s = some r → s ≤ r ∧ r < s + k ∧ p r = true
  | 0, s, r, h => by cases h
  | k + 1, s, r, h => by
    unfold firstAt at h
    by_cases hp : p s = true
    · rw [if_pos hp] at h; cases h; exact ⟨Nat.le_refl _, by omega, hp⟩
    · rw [if_neg hp] at h
      have := firstAt_some h
      exact ⟨by omega, by omega, this.2.2⟩
theorem search2 {T : Array Nat} {s : Nat} (hs : s ≤ T.size) (hn : NoPair T) : ∃ n m', n ≤ 21 ∧ Goes n (Sre.forSearch code2 T 0 s T.size false) m' ∧ Ends m' (firstAt (isCL T) (T.size - s) s) (fun _ => 1) := by
  by_cases h : s = T.size
  · have e : ∃ m, Sre.forSearch code2 T 0 s T.size false = m ∧ m.outcome = none ∧ m.answer = some false ∧ m.frames = [] := by
      refine ⟨_, if_pos (by simp [h]; decide), rfl, rfl, rfl⟩
    obtain ⟨m, e, h1, h2, h3⟩ := e
    refine ⟨1, { m with outcome := some .failed }, by omega, Goes.step (by rw [e]; exact h1) ?_, ?_⟩
    · rw [e]
      unfold M.step
      rw [h1, h2, h3]; rfl
    · rw [show T.size - s = 0 from by omega]; rfl
  · have e : ∃ m, Sre.forSearch code2 T 0 s T.size false = M.attemptFrom m s true ∧ m = { code := code2, text := T, lim := T.size, start := s, lastStart := T.size, pc := 10, pos := s, handed := s, marks := #[], mustAdvance := false, seen := ({} : Sre.Seen).add 14 } := by
      refine ⟨_, (if_neg ?_).trans rfl, rfl⟩
      have : ¬ (T.size - s < 1) := by omega
      simp; exact ⟨by omega, by show 1 ≤ _; omega⟩
    obtain ⟨m, e, hm⟩ := e
    rw [e]
    have hf : M.attemptFrom m s true = match M.admitted m (m.lim + 1 - s) s m.seen with
      | .ok (some s, seen) => { m with mustAdvance := false, seen }.attemptAt s true
      | .ok (none, seen) => { m with seen }.say false
      | .error why => m.stick why := by
      rw [hm]; rfl
    obtain ⟨sn', ea⟩ := admitted2 m T (by rw [hm]) (by rw [hm]) (by rw [hm]) (T.size - s) s m.seen (by omega)
    have el : m.lim + 1 - s = T.size - s + 1 := by rw [hm]; show T.size + 1 - s = _; omega
    rw [hf, el, ea]
    cases hr : firstAt (isCL T) (T.size - s) s with
    | none =>
      refine ⟨1, { m with seen := sn', answer := some false, outcome := some .failed }, by omega, Goes.step ?_ ?_, rfl⟩
      · rw [hm]; rfl
      · rw [hm]; rfl
    | some p =>
      obtain ⟨h1, h2, h3⟩ := firstAt_some hr
      obtain ⟨n, m', hn', hg, hm'⟩ := go2 (T := T) (s := p) (ma := false) (o := true) (sn := sn') (by omega) h3 hn
      refine ⟨n, m', by omega, ?_, hm'⟩
      rw [hm]
      exact hg
end Mine
end
section
open PySem PySem.W PyProof.Rows
set_option Elab.async false
set_option maxRecDepth 100000
set_option linter.unusedVariables false
namespace Mine
open Builtin.Re
theorem forRule {MM : Model} {A : Around} {E : Value → Shared → Prop} {s : Shared} {f : Nat → PUnit → Sem (ForInStep PUnit)} (hf : ∀ i (Q : ForInStep PUnit → Shared → Prop), Q (.yield ⟨⟩) s → wpAny MM A (f i ⟨⟩) Q E s) {Q : PUnit → Shared → Prop} (h : Q ⟨⟩ s) : ∀ l : List Nat, wpAny MM A (forIn l PUnit.unit f) Q E s
  | [] => by rw [List.forIn_nil]; exact wpAny_pure h
  | a :: l => by
    rw [List.forIn_cons]
    exact wpAny_bind (hf a _ (forRule hf h l))
theorem runEnd {MM : Model} {A : Around} {E : Value → Shared → Prop} {s : Shared} {Q : Option Sre.M → Shared → Prop} {m m' : Sre.M} {n : Nat} {y : Bool} (hn : n ≤ 1000000) (hg : Goes n m m') (he : m'.outcome = some (if y = true then .matched else .failed))
    (h : Q (if y = true then some m' else none) s) : wpAny MM A (reRunToEnd m) Q E s := by
  unfold reRunToEnd
  have ho : m'.outcome.isSome = true := by rw [he]; rfl
  have e64 : (2 : Nat) ^ 64 = 18446744073709551615 + 1 := by decide
  rw [e64]
  have hg' : Sre.M.runFor n m = m' := hg
  refine wpAny_bind (drive _ n m (by omega) (by rw [hg']; exact ho) ?_)
  rw [hg']
  refine wpAny_bind (forRule (fun i Q hQ => ?_) ?_ _)
  · by_cases hs : m'.seen.has i = true
    · rw [if_pos hs]; exact wpAny_bind (wpAny_rule (wpAny_pure hQ))
    · rw [if_neg hs]; exact wpAny_pure hQ
  · rw [he]
    cases y with
    | true => exact wpAny_pure h
    | false => exact wpAny_pure h
/-- a pattern as the heap holds it -/
noncomputable def Pat (h : Heap) (pa : Addr) (code : Array Nat) : Prop := ∃ ob fs ca oc its n, h.get? pa = some ob ∧ ob.data = .fields fs ∧ fs.getD 5 .none = .ref ca ∧ h.get? ca = some oc ∧ oc.data = .seq its n ∧ (its.map reRawOf).map (·.toNat) = code ∧ reRawNat (fs.getD 6 .none) = 0 ∧ reRawNat (fs.getD 2 .none) = 0
theorem target {MM : Model} {A : Around} {E : Value → Shared → Prop} {s : Shared} {pa : Addr} {code : Array Nat} {T : Str} {t : Tok} {Q : ReTarget → Shared → Prop} (p : Pat s.heap pa code)
    (h : Q { pattern := .ref pa, string := .str T t, code := code, text := T.cps, kind := 0, groups := 0, pos := 0, lim := T.cps.size } s) : wpAny MM A (reWholeTarget (.ref pa) (.str T t)) Q E s := by
  obtain ⟨ob, fs, ca, oc, its, n, h1, h2, h3, h4, h5, h6, h7, h8⟩ := p
  unfold reWholeTarget
  refine wpAny_bind (wpAny_fieldsOf h1 h2 ?_)
  refine wpAny_bind (wpAny_of_eq (a := (T.cps, 0)) (by rfl) ?_)
  rw [h7]
  refine KFB.if_not rfl ?_
  refine KFB.if_not rfl ?_
  refine wpAny_bind (wpAny_of_eq (a := ()) (by rfl) ?_)
  unfold reRawItems
  rw [h3]
  refine wpAny_bind (wpAny_bind (wpAny_seqItems h4 h5 (wpAny_pure (wpAny_pure ?_))))
  simp only [Option.getD_some]
  rw [h6, h8]
  exact h
noncomputable def subOut (p : Nat → Bool) (rp T : Str) (d : Nat) : List Nat := (List.range' d (T.cps.size - d)).flatMap fun i => if p i = true then rp.cps.toList else [T.cps.getD i 0]
theorem subOut_none {p : Nat → Bool} {rp T : Str} : ∀ (k d : Nat), d + k = T.cps.size → firstAt p k d = none → subOut p rp T d = (T.cps.extract d T.cps.size).toList
  | 0, d, hk, _ => by
    have : T.cps.size - d = 0 := by omega
    unfold subOut; rw [this]; simp; omega
  | k + 1, d, hk, h => by
    unfold firstAt at h
    by_cases hp : p d = true
    · rw [if_pos hp] at h; cases h
    · rw [if_neg hp] at h
      have ih := subOut_none (p := p) (rp := rp) (T := T) k (d + 1) (by omega) h
      have hlt : d < T.cps.size := by omega
      unfold subOut at ih ⊢
      rw [show T.cps.size - d = (T.cps.size - (d + 1)) + 1 from by omega, List.range'_succ, List.flatMap_cons, if_neg hp, ih]
      simp only [Array.toList_extract, List.extract_eq_take_drop]
      rw [show T.cps.size - d = (T.cps.size - (d + 1)) + 1 from by omega]
      rw [List.drop_eq_getElem_cons (l := T.cps.toList) (i := d) (by simpa using hlt), List.take_succ_cons]
      simp [hlt]
theorem subOut_some {p : Nat → Bool} {rp T : Str} : ∀ (k d q : Nat), d + k = T.cps.size → firstAt p k d = some q → subOut p rp T d = (T.cps.extract d q).toList ++ rp.cps.toList ++ subOut p rp T (q + 1)
  | 0, d, q, hk, h => by cases h
  | k + 1, d, q, hk, h => by
    have hlt : d < T.cps.size := by omega
    have hq := firstAt_some h
    unfold firstAt at h
    have hu : subOut p rp T d = (if p d = true then rp.cps.toList else [T.cps.getD d 0]) ++ subOut p rp T (d + 1) := by
      unfold subOut
      rw [show T.cps.size - d = (T.cps.size - (d + 1)) + 1 from by omega, List.range'_succ, List.flatMap_cons]
    by_cases hp : p d = true
    · rw [if_pos hp] at h; cases h
      rw [hu, if_pos hp]
      simp
    · rw [if_neg hp] at h
      have ih := subOut_some (p := p) (rp := rp) (T := T) k (d + 1) q (by omega) h
      have hq' := firstAt_some h
      rw [hu, if_neg hp, ih]
      have : (T.cps.extract d q).toList = T.cps.getD d 0 :: (T.cps.extract (d + 1) q).toList := by
        simp only [Array.toList_extract, List.extract_eq_take_drop]
        rw [show q - d = (q - (d + 1)) + 1 from by omega]
        rw [List.drop_eq_getElem_cons (l := T.cps.toList) (i := d) (by simpa using hlt), List.take_succ_cons]
        simp [hlt]
      rw [this]
      simp
end Mine
end
section
open PySem PySem.W PyProof.Rows
set_option Elab.async false
set_option maxRecDepth 100000
set_option linter.unusedVariables false
namespace Mine
open Builtin.Re
theorem push1 {MM : Model} {A : Around} {E : Value → Shared → Prop} {s : Shared} {L : Addr} {its : Array Value} {n : Nat} {x : Value} {Q : Unit → Shared → Prop} (hl : IsL s.heap L its n) (hz : its.size ≤ 1000000)
    (h : ∀ h' n', IsL h' L (its.push x) n' → Heap.SameBut L s.heap h' → Q () { s with heap := h' }) : wpAny MM A (updateSeq L (·.push x)) Q E s := by
  refine wpAny_updateSeq (f := (·.push x)) hl rfl (h _ _ (hl.update _) (Heap.SameBut.update ..)) (by rw [sizeLine_eq]; omega) ?_
  show (its.push x).size ≤ _
  rw [Array.size_push, sizeLine_eq]; omega
theorem Pat.mono {h h' : Heap} {pa : Addr} {code : Array Nat} (p : Pat h pa code) (k : ∀ b o, h.get? b = some o → h'.get? b = some o) : Pat h' pa code := by
  obtain ⟨ob, fs, ca, oc, its, n, h1, h2, h3, h4, h5⟩ := p
  exact ⟨ob, fs, ca, oc, its, n, k _ _ h1, h2, h3, k _ _ h4, h5⟩
theorem entry_loop : entryFor table "re.Pattern.sub.loop" = some Builtin.«re.Pattern.sub.loop» := entryFor_of_tree (by kernel_rfl)
theorem strs_snoc : ∀ {vs : List Value} {ss : List Str}, StrsAre vs ss → ∀ (x : Str) (t : Tok), StrsAre (vs ++ [.str x t]) (ss ++ [x])
  | [], [], .nil, x, t => .cons x t .nil
  | _ :: _, _ :: _, .cons y u h, x, t => .cons y u (strs_snoc h x t)
noncomputable def catN (ss : List Str) : List Nat := ss.flatMap (·.cps.toList)
theorem catN_snoc (ss : List Str) (x : Str) : catN (ss ++ [x]) = catN ss ++ x.cps.toList := by simp [catN]
noncomputable def wgt (ss : List Str) : Nat := (ss.map (·.length)).sum + ss.length
theorem wgt_snoc (ss : List Str) (x : Str) : wgt (ss ++ [x]) = wgt ss + x.length + 1 := by simp [wgt]; omega
theorem ext_len (T : Str) (a b : Nat) (h : b ≤ T.cps.size) : (Str.mk (T.cps.extract a b)).length = b - a := by simp [Str.length]; omega
/-- a search answers -/
noncomputable def Finds (code : Array Nat) (T : Str) (p : Nat → Bool) : Prop := ∀ d, d ≤ T.cps.size → ∃ n m', n ≤ 1000000 ∧ Goes n (Sre.forSearch code T.cps 0 d T.cps.size false) m' ∧ Ends m' (firstAt p (T.cps.size - d) d) (fun _ => 1)
theorem glue_fold (sep : Str) : ∀ (l : List Str) (acc : Array Nat), (l.foldl (fun acc p => acc ++ sep.cps ++ p.cps) acc).toList = acc.toList ++ l.flatMap (fun p => sep.cps.toList ++ p.cps.toList)
  | [], acc => by simp
  | x :: l, acc => by
    rw [List.foldl_cons, glue_fold sep l]
    simp
theorem join_cons (sep x : Str) (l : List Str) : (Txt.join sep (x :: l)).cps.toList = x.cps.toList ++ l.flatMap (fun p => sep.cps.toList ++ p.cps.toList) := glue_fold sep l x.cps
theorem join_cat (ss : List Str) : (Txt.join (Str.ofString "") ss).cps.toList = catN ss := by
  cases ss with
  | nil => rfl
  | cons x l =>
    rw [join_cons]
    have : (Str.ofString "").cps.toList = [] := rfl
    rw [this]
    simp [catN]
theorem subloop {w : World} {A : Around} {g : Heap} {pa L : Addr} {code : Array Nat} {T rp : Str} {t u : Tok} {p : Nat → Bool} (P : Pat g pa code) (hF : Finds code T p) (hL : g.get? L = none) (hr : rp.length ≤ 2) {R : Result → Shared → Prop} :
    ∀ (k d : Nat), T.cps.size - d = k → d ≤ T.cps.size → ∀ (s : Shared) (vs : List Value) (ss : List Str) (nn : Nat) (n : Int), (∀ b o, g.get? b = some o → s.heap.get? b = some o) → IsL s.heap L vs.toArray nn → StrsAre vs ss → wgt ss + 8 * (T.cps.size - d) ≤ 100000 →
    (∀ z h' t' tk, z.cps.toList = catN ss ++ subOut p rp T d → (∀ b o, g.get? b = some o → h'.get? b = some o) → R (.ok (.ret (.str z t'))) { s with heap := h', toks := tk }) →
    codeAny (model prg w) A (.builtin "re.Pattern.sub.loop" ⟨[.ref pa, .str T t, .str rp u, rawInt 0, rawInt 0, rawInt n, rawInt d, rawInt d, .bool false, .ref L, .bool false], []⟩) R s := by
  intro k
  induction k using Nat.strongRecOn with
  | _ k ih =>
    intro d hk hd s vs ss nn n hg hl hS hw hR
    refine codeAny_builtin entry_loop ?_
    rw [Around.under_plain rfl rfl]
    unfold Builtin.«re.Pattern.sub.loop»
    have ne : ∀ b o, g.get? b = some o → b ≠ L := fun b o e q => by rw [q, hL] at e; cases e
    show wpAny _ _ (reWholeTarget (.ref pa) (.str T t) >>= _) _ _ _
    refine wpAny_bind (target (P.mono hg) ?_)
    refine KFB.if_so rfl ?_
    refine wpAny_bind (wpAny_of_eq (a := ()) (by rfl) ?_)
    refine wpAny_bind ?_
    refine KFB.if_not rfl ?_
    obtain ⟨n', m', hn', hgo, he⟩ := hF d hd
    have vl : vs.length = ss.length := by
      clear hR hw hl ih
      induction hS with
      | nil => rfl
      | cons _ _ _ ih => simp [ih]
    have vsz : vs.toArray.size ≤ 1000000 := by rw [List.size_toArray, vl]; unfold wgt at hw; omega
    show wpAny _ _ (reRunToEnd (Sre.forSearch code T.cps 0 d T.cps.size false)) _ _ _
    cases hr1 : firstAt p (T.cps.size - d) d with
    | none =>
      rw [hr1] at he
      refine runEnd (y := false) hn' hgo he ?_
      have hout := subOut_none (p := p) (rp := rp) (T := T) (T.cps.size - d) d (by omega) hr1
      show wpAny _ _ (if (d : Int).toNat < T.cps.size then _ else _) _ _ _
      have fin : ∀ (s' : Shared) (vs' : List Value) (ss' : List Str) (nn' : Nat), (∃ h' tk, s' = { s with heap := h', toks := tk }) → (∀ b o, g.get? b = some o → s'.heap.get? b = some o) → IsL s'.heap L vs'.toArray nn' → StrsAre vs' ss' → wgt ss' ≤ 100000 → catN ss' = catN ss ++ subOut p rp T d →
          wpAny (model prg w) A.in1 (do
            let joiner ← reSlice T.cps 0 0 0
            let text ← if ((← seqItems? (.ref L)).getD #[]).isEmpty then pure joiner else call (.builtin "str.join") [joiner, .ref L]
            ret text) (fun fin s' => match fin with
              | .done f => R (.ok f) s'
              | .again c' => c'.quiet = true ∧ codeAny (model prg w) A c' R s') (fun e s' => R (.error e) s') s' := by
        rintro _ vs' ss' nn' ⟨h₁, tk₁, rfl⟩ hg' hl' hS' hw' hcat
        refine wpAny_bind (wpAny_mkStr ?_ (by simp [Str.length]))
        refine wpAny_bind (wpAny_seqItems hl' rfl ?_)
        simp only [Option.getD_some]
        by_cases hem : vs'.toArray.isEmpty = true
        · rw [if_pos hem]
          have : vs' = [] := by simpa using hem
          subst this
          cases hS'
          refine wpAny_bind (wpAny_pure (wpAny_pure (hR _ _ _ _ ?_ hg')))
          rw [← hcat]
          simp [catN]
        · rw [if_neg hem]
          refine wpAny_bind (join_listW (ys := ss') (x := ⟨T.cps.extract 0 0⟩) hl'.isList hS' (by simp [Str.length]) (by unfold wgt at hw'; omega) fun t' k => wpAny_pure (hR _ _ _ _ ?_ hg'))
          rw [show (⟨T.cps.extract 0 0⟩ : Str) = Str.ofString "" from by simp; rfl, join_cat, hcat]
      by_cases hlt : d < T.cps.size
      · rw [if_pos (by simpa using hlt)]
        refine wpAny_bind (wpAny_mkStr ?_ ?_)
        · refine wpAny_bind (push1 hl vsz fun h' nn2 hl2 hsb => ?_)
          have hl3 : IsL h' L (vs ++ [Value.str ⟨T.cps.extract (d : Int).toNat T.cps.size⟩ s.toks]).toArray nn2 := by simpa using hl2
          refine fin _ _ (ss ++ [⟨T.cps.extract (d : Int).toNat T.cps.size⟩]) _ ⟨h', _, rfl⟩ (fun b o e => (hsb.2 b (ne b o e)).trans (hg b o e)) hl3 (strs_snoc hS _ _) ?_ ?_
          · rw [wgt_snoc, ext_len T _ _ (Nat.le_refl _)]; simp; omega
          · rw [catN_snoc, hout]; simp
        · rw [ext_len T _ _ (Nat.le_refl _), sizeLine_eq]; omega
      · rw [if_neg (by simpa using hlt)]
        refine fin s vs ss nn ⟨s.heap, s.toks, rfl⟩ hg hl hS (by omega) ?_
        have : d = T.cps.size := by omega
        rw [hout, this]; simp
    | some q =>
      rw [hr1] at he
      obtain ⟨ho, hs, hh⟩ := he
      refine runEnd (y := true) hn' hgo ho ?_
      have hq := firstAt_some hr1
      have hout := subOut_some (p := p) (rp := rp) (T := T) (T.cps.size - d) d q (by omega) hr1
      have nxt : ∀ (s' : Shared) (vs' : List Value) (ss' : List Str) (nn' : Nat), (∃ h' tk, s' = { s with heap := h', toks := tk }) → (∀ b o, g.get? b = some o → s'.heap.get? b = some o) → IsL s'.heap L vs'.toArray nn' → StrsAre vs' ss' → wgt ss' + rp.length + 1 + 8 * (T.cps.size - (q + 1)) ≤ 100000 → vs'.length ≤ 1000000 → catN ss' ++ rp.cps.toList ++ subOut p rp T (q + 1) = catN ss ++ subOut p rp T d →
          wpAny (model prg w) A.in1 (do
            updateSeq L (·.push (Value.str rp u))
            again (.builtin "re.Pattern.sub.loop" ⟨[.ref pa, .str T t, .str rp u, rawInt 0, rawInt 0, rawInt (n + 1), rawInt m'.handed, rawInt m'.handed, .bool (m'.handed == q), .ref L, .bool false], []⟩)) (fun fin s' => match fin with
              | .done f => R (.ok f) s'
              | .again c' => c'.quiet = true ∧ codeAny (model prg w) A c' R s') (fun e s' => R (.error e) s') s' := by
        rintro _ vs' ss' nn' ⟨h₁, tk₁, rfl⟩ hg' hl' hS' hw' hvl hcat
        refine wpAny_bind (push1 hl' (by simpa using hvl) fun h' nn2 hl2 hsb => ?_)
        have hl3 : IsL h' L (vs' ++ [Value.str rp u]).toArray nn2 := by simpa using hl2
        rw [hh, show (q + 1 == q) = false from by simp]
        refine wpAny_pure ⟨Code.quiet_builtin _ (by decide +kernel), ?_⟩
        refine ih (T.cps.size - (q + 1)) (by omega) (q + 1) rfl (by omega) _ (vs' ++ [Value.str rp u]) (ss' ++ [rp]) nn2 (n + 1) (fun b o e => (hsb.2 b (ne b o e)).trans (hg' b o e)) hl3 (strs_snoc hS' _ _) ?_ ?_
        · rw [wgt_snoc]; omega
        · intro z h'' t' tk' hz hk
          exact hR z h'' t' tk' (by rw [hz, catN_snoc, ← hcat]) hk
      show wpAny _ _ (if (d : Int).toNat < m'.start then _ else _) _ _ _
      rw [hs]
      by_cases hlt : d < q
      · rw [if_pos (by simpa using hlt)]
        refine wpAny_bind (wpAny_mkStr ?_ ?_)
        · refine wpAny_bind (push1 hl vsz fun h' nn2 hl2 hsb => ?_)
          have hl3 : IsL h' L (vs ++ [Value.str ⟨T.cps.extract (d : Int).toNat q⟩ s.toks]).toArray nn2 := by simpa using hl2
          refine KFB.if_so rfl (wpAny_bind (wpAny_pure (KFB.if_so rfl ?_)))
          refine nxt _ _ (ss ++ [⟨T.cps.extract (d : Int).toNat q⟩]) _ ⟨h', _, rfl⟩ (fun b o e => (hsb.2 b (ne b o e)).trans (hg b o e)) hl3 (strs_snoc hS _ _) ?_ ?_ ?_
          · rw [wgt_snoc, ext_len T _ _ (by omega)]; simp; omega
          · simp only [List.length_append, vl, List.length_cons, List.length_nil]; unfold wgt at hw; omega
          · rw [catN_snoc, hout]; simp
        · rw [ext_len T _ _ (by omega), sizeLine_eq]; omega
      · rw [if_neg (by simpa using hlt)]
        refine KFB.if_so rfl (wpAny_bind (wpAny_pure (KFB.if_so rfl ?_)))
        refine nxt s vs ss nn ⟨s.heap, s.toks, rfl⟩ hg hl hS (by omega) (by rw [vl]; unfold wgt at hw; omega) ?_
        have : d = q := by omega
        rw [hout, this]; simp
end Mine
end
section
open PySem PySem.W PyProof.Rows
set_option Elab.async false
set_option maxRecDepth 100000
set_option linter.unusedVariables false
namespace Mine
open Builtin.Re
theorem pa_re : PlainAttrs "re.Pattern" :=
  ⟨⟨"object.__getattribute__", by rw [typeLookup_type, builtinLookup_eq_fast]; kernel_rfl, by decide +kernel⟩, by rw [typeLookup_type, builtinLookup_eq_fast]; kernel_rfl⟩
theorem slot_sub : Slot "re.Pattern" (Str.ofString "sub") "re.Pattern.sub" :=
  .of (owner := "re.Pattern") (n := "sub") (by rw [typeLookup_type, builtinLookup_eq_fast]; kernel_rfl) (by decide +kernel) (by decide +kernel) (by decide +kernel)
    (by first | exact .inl (by decide +kernel) | exact .inr (by decide +kernel)) (by rw [isSubtype_type]; kernel_rfl)
theorem type_sub : typeOf (.builtin "re.Pattern.sub") = pure (.type "method_descriptor") := by show builtinType _ = _; rw [builtinType_eq_fast]; kernel_rfl
theorem entry_sub : entryFor table "re.Pattern.sub" = some Builtin.«re.Pattern.sub» := entryFor_of_tree (by kernel_rfl)
theorem args_sub (a b c : Value) : argsOk "re.Pattern.sub" ⟨[a, b, c], []⟩ := by unfold argsOk; kernel_rfl
theorem look_call : typeLookup (.type "str") "__call__" = pure none := by rw [typeLookup_type, builtinLookup_eq_fast]; kernel_rfl
theorem spec_call {x : Str} {t : Tok} : specialOf (.str x t) "__call__" = pure none := by
  have e : specialOf (.str x t) "__call__" = typeLookup (.type "str") "__call__" := rfl
  rw [e, look_call]
theorem named {rp T : Value} : reNamed "re.Pattern.sub" "sub" ["repl", "string", "count"] 2 [rp, T] [] = pure [some rp, some T, none] := by first | rfl | kernel_rfl
theorem cl_sub {w : World} {A : Around} {pa : Addr} {code : Array Nat} {T rp : Str} {p : Nat → Bool} (hK : ∀ h, Gd w h → Pat h pa code ∧ ∃ ob, h.get? pa = some ob ∧ ob.cls = .type "re.Pattern") (hF : Finds code T p) (hr : rp.length ≤ 2) (h92 : rp.cps.contains 92 = false) (hz : T.cps.size ≤ 10000) :
    Cal w A (.builtin "re.Pattern.sub") [.ref pa, .str rp, .str T] (.str ⟨(subOut p rp T 0).toArray⟩) := by
  constructor; rintro bd s vs gd hb hrd
  obtain ⟨v, u, x, rfl, rfl, ⟨t1, rfl⟩, ⟨t2, rfl⟩⟩ := rdl3 hrd
  obtain ⟨P, ob, ho, hc⟩ := hK s.heap gd
  refine wpAny_call (codeAny_call_builtin slot_sub.plain entry_sub (slot_sub.check _ _ _ _ _ _ _ _ ⟨ob, ho, hc⟩ (args_sub _ _ _) ?_))
  unfold Builtin.«re.Pattern.sub» reSubstitute
  refine wpAny_bind (wpAny_of_eq named ?_)
  refine wpAny_bind (wpAny_of_eq (a := 0) (by rfl) ?_)
  refine wpAny_bind (wpAny_of_eq spec_call ?_)
  refine KFB.if_not rfl ?_
  refine wpAny_bind (wpAny_of_eq (a := some rp) (by rfl) ?_)
  refine wpAny_bind (wpAny_pure ?_)
  refine KFB.if_not rfl ?_
  refine KFB.if_so (by rw [h92]; rfl) ?_
  refine wpAny_bind (wpAny_pure ?_)
  refine wpAny_bind (wpAny_holding (target P ?_))
  refine KFB.if_not rfl ?_
  refine wpAny_bind (wpAny_newObj_type ?_ (by size_fits))
  refine wpAny_pure ⟨Code.quiet_builtin _ (by decide +kernel), ?_⟩
  refine subloop (g := s.heap) P hF ?_ hr (T.cps.size - 0) 0 rfl (Nat.zero_le _) _ [] [] 0 0 (fun b o e => Heap.get?_push_of_some _ e) (IsL.new ..) .nil ?_ ?_
  · cases q : s.heap.get? s.heap.objs.size with
    | none => rfl
    | some ob => exact absurd (Heap.lt_size q) (Nat.lt_irrefl _)
  · simp [wgt]; omega
  · intro z h' t' tk hz hk
    refine ⟨kMk hk, t', ?_⟩
    have : z = ⟨(subOut p rp T 0).toArray⟩ := by
      obtain ⟨c⟩ := z
      have hz' : c.toList = subOut p rp T 0 := by simpa [catN] using hz
      rw [← hz']
    rw [this]
end Mine
end
section
open PySem PySem.W PyProof.Rows
set_option Elab.async false
set_option maxRecDepth 100000
set_option linter.unusedVariables false
set_option maxHeartbeats 4000000
namespace Mine
theorem gv_law_six (w : World) : GV w (Str.ofString "_law_six") (.ref 197) := gv_glob rfl (by kernel_rfl)
theorem gv_law_modes (w : World) : GV w (Str.ofString "_law_modes") (.ref 204) := gv_glob rfl (by kernel_rfl)
theorem gv_filemode (w : World) : GV w (Str.ofString "filemode") (.ref 190) := gv_glob rfl (by kernel_rfl)
theorem gv_S_IMODE (w : World) : GV w (Str.ofString "S_IMODE") (.ref 143) := gv_glob rfl (by kernel_rfl)
theorem gv_S_IFMT (w : World) : GV w (Str.ofString "S_IFMT") (.ref 150) := gv_glob rfl (by kernel_rfl)
theorem gv_b64encode (w : World) : GV w (Str.ofString "b64encode") (.ref 128) := gv_glob rfl (by kernel_rfl)
theorem gv_quotedata (w : World) : GV w (Str.ofString "quotedata") (.ref 55) := gv_glob rfl (by kernel_rfl)
theorem gv_law_bits (w : World) : GV w (Str.ofString "_law_bits") (.ref 211) := gv_glob rfl (by kernel_rfl)
theorem gv_law_mail (w : World) : GV w (Str.ofString "_law_mail") (.ref 218) := gv_glob rfl (by kernel_rfl)
theorem gv_b64decode (w : World) : GV w (Str.ofString "b64decode") (.ref 136) := gv_glob rfl (by kernel_rfl)
theorem gv_law_row (w : World) : GV w (Str.ofString "_law_row") (.ref 225) := gv_glob rfl (by kernel_rfl)
theorem gv_b2a_base64 (w : World) : GV w (Str.ofString "b2a_base64") (.ref 120) := gv_glob rfl (by kernel_rfl)
theorem gv_a2b_base64 (w : World) : GV w (Str.ofString "a2b_base64") (.ref 112) := gv_glob rfl (by kernel_rfl)
theorem gv_buffer (w : World) : GV w (Str.ofString "_buffer") (.ref 90) := gv_glob rfl (by kernel_rfl)
theorem gv_ascii_buffer (w : World) : GV w (Str.ofString "_ascii_buffer") (.ref 83) := gv_glob rfl (by kernel_rfl)
theorem gv_truth (w : World) : GV w (Str.ofString "_truth") (.ref 97) := gv_glob rfl (by kernel_rfl)
theorem gv_b64_value (w : World) : GV w (Str.ofString "_b64_value") (.ref 104) := gv_glob rfl (by kernel_rfl)
theorem gv_bytes_from_decode_data (w : World) : GV w (Str.ofString "_bytes_from_decode_data") (.ref 63) := gv_glob rfl (by kernel_rfl)
theorem gv_twin_re_1 (w : World) : GV w (Str.ofString "_twin_re_1") (.ref 43) := gv_glob rfl (by kernel_rfl)
theorem gv_twin_re_2 (w : World) : GV w (Str.ofString "_twin_re_2") (.ref 48) := gv_glob rfl (by kernel_rfl)
theorem gv_filemode_table (w : World) : GV w (Str.ofString "_filemode_table") (.ref 183) := gv_glob rfl (by kernel_rfl)
theorem gv_B64 (w : World) : ∃ t, GV w (Str.ofString "_B64") (.bytes #[65, 66, 67, 68, 69, 70, 71, 72, 73, 74, 75, 76, 77, 78, 79, 80, 81, 82, 83, 84, 85, 86, 87, 88, 89, 90, 97, 98, 99, 100, 101, 102, 103, 104, 105, 106, 107, 108, 109, 110, 111, 112, 113, 114, 115, 116, 117, 118, 119, 120, 121, 122, 48, 49, 50, 51, 52, 53, 54, 55, 56, 57, 43, 47] t) := ⟨412, gv_glob rfl (by kernel_rfl)⟩
theorem gv_CRLF (w : World) : GV w (Str.ofString "CRLF") (.str ⟨#[13, 10]⟩ 349) := gv_glob rfl (by kernel_rfl)
theorem gv_len (w : World) : GV w (Str.ofString "len") (.builtin "len") := gv_blt rfl (by kernel_rfl) (by decide +kernel) (ofString_ne (by decide))
theorem gv_range (w : World) : GV w (Str.ofString "range") (.type "range") := gv_blt rfl (by kernel_rfl) (by decide +kernel) (ofString_ne (by decide))
theorem gv_int (w : World) : GV w (Str.ofString "int") (.type "int") := gv_blt rfl (by kernel_rfl) (by decide +kernel) (ofString_ne (by decide))
theorem gv_bytes (w : World) : GV w (Str.ofString "bytes") (.type "bytes") := gv_blt rfl (by kernel_rfl) (by decide +kernel) (ofString_ne (by decide))
theorem gv_ord (w : World) : GV w (Str.ofString "ord") (.builtin "ord") := gv_blt rfl (by kernel_rfl) (by decide +kernel) (ofString_ne (by decide))
theorem gv_chr (w : World) : GV w (Str.ofString "chr") (.builtin "chr") := gv_blt rfl (by kernel_rfl) (by decide +kernel) (ofString_ne (by decide))
theorem gv_type (w : World) : GV w (Str.ofString "type") (.type "type") := gv_blt rfl (by kernel_rfl) (by decide +kernel) (ofString_ne (by decide))
theorem gv_enumerate (w : World) : GV w (Str.ofString "enumerate") (.type "enumerate") := gv_blt rfl (by kernel_rfl) (by decide +kernel) (ofString_ne (by decide))
theorem gv_sum (w : World) : GV w (Str.ofString "sum") (.builtin "sum") := gv_blt rfl (by kernel_rfl) (by decide +kernel) (ofString_ne (by decide))
theorem gv_str (w : World) : GV w (Str.ofString "str") (.type "str") := gv_blt rfl (by kernel_rfl) (by decide +kernel) (ofString_ne (by decide))
theorem gv_isinstance (w : World) : GV w (Str.ofString "isinstance") (.builtin "isinstance") := gv_blt rfl (by kernel_rfl) (by decide +kernel) (ofString_ne (by decide))
theorem gv_bool (w : World) : GV w (Str.ofString "bool") (.type "bool") := gv_blt rfl (by kernel_rfl) (by decide +kernel) (ofString_ne (by decide))
theorem gv_float (w : World) : GV w (Str.ofString "float") (.type "float") := gv_blt rfl (by kernel_rfl) (by decide +kernel) (ofString_ne (by decide))
theorem gv_complex (w : World) : GV w (Str.ofString "complex") (.type "complex") := gv_blt rfl (by kernel_rfl) (by decide +kernel) (ofString_ne (by decide))
theorem gv_bytearray (w : World) : GV w (Str.ofString "bytearray") (.type "bytearray") := gv_blt rfl (by kernel_rfl) (by decide +kernel) (ofString_ne (by decide))
theorem gv_list (w : World) : GV w (Str.ofString "list") (.type "list") := gv_blt rfl (by kernel_rfl) (by decide +kernel) (ofString_ne (by decide))
theorem gv_tuple (w : World) : GV w (Str.ofString "tuple") (.type "tuple") := gv_blt rfl (by kernel_rfl) (by decide +kernel) (ofString_ne (by decide))
theorem gv_dict (w : World) : GV w (Str.ofString "dict") (.type "dict") := gv_blt rfl (by kernel_rfl) (by decide +kernel) (ofString_ne (by decide))
theorem gv_set (w : World) : GV w (Str.ofString "set") (.type "set") := gv_blt rfl (by kernel_rfl) (by decide +kernel) (ofString_ne (by decide))
theorem gv_frozenset (w : World) : GV w (Str.ofString "frozenset") (.type "frozenset") := gv_blt rfl (by kernel_rfl) (by decide +kernel) (ofString_ne (by decide))
end Mine
end
section
open PySem PySem.W PyProof.Rows
set_option Elab.async false
set_option maxRecDepth 100000
set_option linter.unusedVariables false
set_option maxHeartbeats 4000000
namespace Mine
local macro_rules | `(tactic| walk_at "kd") => `(tactic| exact kd_of (by assumption) rfl)
local macro_rules | `(tactic| walk_at "mem") => `(tactic| first | (with_reducible_and_instances exact List.Mem.head _) | ((with_reducible_and_instances refine List.Mem.tail _ ?_); walk_at "mem"))
local macro_rules | `(tactic| walk_at "kp0") => `(tactic| first | (with_reducible exact Kp.nil) | ((with_reducible apply kp_same); walk_at "kp0") | ((with_reducible apply kp_keep); decide; walk_at "kp0"))
local macro_rules | `(tactic| walk_at "kp") => `(tactic| ((with_reducible apply Kp.q); walk_at "kp0"))
local macro_rules | `(tactic| walk_at "sb") => `(tactic| first | (with_reducible exact sb_nil) | ((with_reducible apply sb_cons); walk_at "mem"; walk_at "sb"))
local macro_rules | `(tactic| walk_at "own") => `(tactic| first | (with_reducible exact own_none) | ((with_reducible apply own_some); ((with_reducible apply ofString_ne)); decide))
local macro_rules | `(tactic| walk_at "cmp") => `(tactic| with_reducible first | exact c_eq | exact c_ne | exact c_lt | exact c_le | exact c_gt | exact c_ge | exact c_eqs | exact c_nes | exact c_ins | exact c_isT)
local macro_rules | `(tactic| walk_at "ar") => `(tactic| first | decide | omega | (simp; done) | (simp; omega))
local macro_rules | `(tactic| walk_at "bin") => `(tactic| first
  | (with_reducible exact b_add) | (with_reducible exact b_sub) | ((with_reducible apply b_mod); decide) | ((with_reducible apply b_div) <;> decide) | (with_reducible exact b_and) | (with_reducible exact b_or)
  | ((with_reducible apply b_pow) <;> decide)
  | ((with_reducible apply b_shl) <;> walk_at "ar") | ((with_reducible apply b_shr) <;> walk_at "ar")
  | ((with_reducible apply b_mul); first | exact IntMulOk.of_right (intBits_le_64 (by walk_at "ar") (by walk_at "ar")) | exact IntMulOk.of_left (intBits_le_64 (by walk_at "ar") (by walk_at "ar"))))
local macro_rules | `(tactic| walk_at "itm") => `(tactic| first | ((with_reducible apply i_str) <;> walk_at "ar") | ((with_reducible apply i_byt) <;> walk_at "ar") | ((with_reducible apply i_list); walk_at "ar"; walk_at "ar"; exact rfl))
local macro_rules | `(tactic| walk_at "ev") => `(tactic| first
  | (with_reducible exact ev_int) | (with_reducible exact ev_str) | (with_reducible exact ev_bool) | (with_reducible exact ev_none) | (with_reducible exact ev_byt)
  | ((with_reducible apply ev_name); walk_at "mem")
  | ((with_reducible apply ev_bin); walk_at "ev"; walk_at "ev"; walk_at "bin"; exact rfl; exact rfl)
  | ((with_reducible apply ev_cmp); walk_at "ev"; walk_at "ev"; walk_at "cmp"; exact rfl)
  | ((with_reducible apply ev_neg); walk_at "ev")
  | ((with_reducible apply ev_item); walk_at "ev"; walk_at "ev"; walk_at "itm"; exact rfl; (intros; exact rfl))
  | ((with_reducible apply ev_list); walk_at "evs"; exact rfl; decide)
  | walk_at "call")
local macro_rules | `(tactic| walk_at "evs") => `(tactic| first | (with_reducible exact evs_nil) | ((with_reducible apply evs_cons); walk_at "ev"; walk_at "evs"; exact rfl))
local macro_rules | `(tactic| walk_at "ts") => `(tactic| first
  | ((with_reducible apply ts_cmp); walk_at "ev"; walk_at "ev"; walk_at "cmp"; exact rfl)
  | ((with_reducible apply ts_chain); walk_at "ev"; walk_at "ev"; walk_at "ev"; walk_at "cmp"; walk_at "cmp"; exact rfl)
  | ((with_reducible apply ts_not); walk_at "ts")
  | ((with_reducible apply ts_op); walk_at "tss")
  | ((with_reducible apply ts_plain); walk_at "ev"; (intro _ _; exact t_bool _ _); exact rfl; exact rfl))
local macro_rules | `(tactic| walk_at "tss") => `(tactic| first
  | (with_reducible exact tss_and_nil) | (with_reducible exact tss_or_nil)
  | ((with_reducible apply tss_and); walk_at "ts"; (intro _; walk_at "tss"))
  | ((with_reducible apply tss_or); walk_at "ts"; (intro _; walk_at "tss")))
local macro_rules | `(tactic| walk_at "assign") => `(tactic| ((with_reducible apply ex_cons); (with_reducible apply ex_assign); walk_at "ev"; walk_at "kp"; walk_at "kd"; exact rfl; walk_at "own"; exact rfl; (with_reducible refine go_next ?_)))
local macro_rules | `(tactic| walk_at "new") => `(tactic| ((with_reducible apply ex_cons); (with_reducible apply ex_new); walk_at "evs"; walk_at "kp"; walk_at "kd"; exact rfl; exact rfl; decide; exact rfl; intro oa; (with_reducible refine go_next ?_)))
local macro_rules | `(tactic| walk_at "ret") => `(tactic| ((with_reducible apply ex_cons); (with_reducible apply ex_ret); walk_at "ev"; (with_reducible refine go_ret ?_)))
local macro_rules | `(tactic| walk_at "append") => `(tactic| ((with_reducible apply ex_cons); (with_reducible apply ex_append); walk_at "ev"; exact rfl; walk_at "ar"; exact rfl; exact rfl; (with_reducible refine go_next ?_)))
local macro_rules | `(tactic| walk_at "aug") => `(tactic| ((with_reducible apply ex_cons); (with_reducible apply ex_aug); walk_at "mem"; walk_at "ev"; walk_at "augop"; walk_at "kp"; walk_at "kd"; walk_at "own"; exact rfl; exact rfl; (with_reducible refine go_next ?_)))
local macro_rules | `(tactic| walk_at "augop") => `(tactic| first | (with_reducible exact g_add) | ((with_reducible apply g_adds); walk_at "ar"))
local macro_rules | `(tactic| walk_at "if") => `(tactic| ((with_reducible apply ex_cons); (with_reducible apply ex_if); walk_at "ts"))
local macro_rules | `(tactic| walk_at "ok") => `(tactic| first | assumption | exact Ok.le (Ok.deeper (by assumption) _) (by decide) | exact Ok.le (by assumption) (by decide))
local macro_rules | `(tactic| walk_at "hh") => `(tactic| first | exact Ok.hh (by assumption) | exact Ok.hh (Ok.deeper (by assumption) _))
section
noncomputable def six (n : Int) : Int := if n.fmod 4 < 2 then 62 + n.fmod 4 else (n.fdiv 4).fmod 64
theorem six_cal (w : World) (A : Around) (hA : Ok 1 A) (x : Int) : Cal w A (.ref 197) [.int x] (.int (six x)) := by
  refine cal_val [(Str.ofString "number", .int x)] (names := [Str.ofString "number"]) ⟨⟨_, _, _, rfl⟩, rfl, ?_, rfl, rfl, rfl, ?_, ?_, ?_, ?_, rfl, rfl, rfl⟩ hA rfl rfl ?_ rfl ?_
  · kernel_rfl
  · decide
  · intro x hx; rw [List.mem_singleton.mp hx]; rfl
  · decide
  · intro x hx; rw [List.mem_singleton.mp hx]; rfl
  · intro s vs _ hl
    match vs, hl with
    | [v], _ => exact BindsTo.of_eq rfl
  · intro env hK
    walk_at "if"
    · intro h
      walk_at "ret"
      with_reducible refine go_ret ?_
      simp at h
      simp [six, h]
    · intro h
      refine ex_nil (go_next ?_)
      walk_at "ret"
      simp at h
      have : ¬ (x.fmod 4 < 2) := by omega
      simp [six, this]
end
section
local macro_rules | `(tactic| walk_at "call") => `(tactic| first
  | ((with_reducible apply ev_callT (gv_type _)); walk_at "kd"; walk_at "evs"; first | exact cl_typeB | exact cl_typeBool)
  | ((with_reducible apply ev_globT (gv_bytes _)); walk_at "kd")
  | ((with_reducible apply ev_globT (gv_bool _)); walk_at "kd")
  | ((with_reducible apply ev_globT (gv_str _)); walk_at "kd"))
theorem truth_cal (w : World) (A : Around) (hA : Ok 1 A) (b : Bool) : Cal w A (.ref 97) [.bool b] (.bool b) := by
  refine cal_val [(Str.ofString "x", .bool b)] (names := [Str.ofString "x"]) ⟨⟨_, _, _, rfl⟩, rfl, ?_, rfl, rfl, rfl, ?_, ?_, ?_, ?_, rfl, rfl, rfl⟩ hA rfl rfl ?_ rfl ?_
  · kernel_rfl
  · decide
  · intro x hx; rcases List.mem_cons.mp hx with rfl | hx; exact rfl; cases hx
  · decide
  · intro x hx; rcases List.mem_cons.mp hx with rfl | hx; exact rfl; cases hx
  · intro s vs gdv hl
    match vs, hl with
    | [v0], _ => exact BindsTo.of_eq rfl
  · intro env hK
    walk_at "assign"
    with_reducible apply ex_cons
    refine ex_if (t := true) ?_ (fun _ => ?_) (fun h => nomatch h)
    · refine ts_op (tss_or (b := false) (c := true) ?_ (fun _ => tss_or (b := true) (c := true) ?_ (fun h => nomatch h)))
      · exact ts_cmp (a := .bool b) (b := .none) (ev_name (by walk_at "mem")) ev_none (c_isN rfl nn_bool) rfl
      · refine ts_cmp (a := .typ "bool") (b := .typ "bool") ?_ ?_ (c_isT (a := "bool") (b := "bool")) rfl
        · walk_at "ev"
        · walk_at "ev"
    · with_reducible apply ex_cons
      refine ex_ret (d := .bool b) (ev_if (bt := b) ?_ (fun h => ?_) (fun h => ?_)) (go_ret (go_ret rfl))
      · walk_at "ts"
      · subst h; exact ev_bool
      · subst h; exact ev_bool
theorem buf_cal (w : World) (A : Around) (hA : Ok 1 A) (b : Array UInt8) : Cal w A (.ref 90) [.byt b] (.byt b) := by
  refine cal_val [(Str.ofString "data", .byt b)] (names := [Str.ofString "data"]) ⟨⟨_, _, _, rfl⟩, rfl, ?_, rfl, rfl, rfl, ?_, ?_, ?_, ?_, rfl, rfl, rfl⟩ hA rfl rfl ?_ rfl ?_
  · kernel_rfl
  · decide
  · intro x hx; rcases List.mem_cons.mp hx with rfl | hx; exact rfl; cases hx
  · decide
  · intro x hx; rcases List.mem_cons.mp hx with rfl | hx; exact rfl; cases hx
  · intro s vs gdv hl
    match vs, hl with
    | [v0], _ => exact BindsTo.of_eq rfl
  · intro env hK
    walk_at "assign"
    walk_at "if"
    · intro _
      walk_at "ret"
      exact rfl
    · intro h; simp at h
theorem abuf_cal (w : World) (A : Around) (hA : Ok 1 A) (b : Array UInt8) : Cal w A (.ref 83) [.byt b] (.byt b) := by
  refine cal_val [(Str.ofString "data", .byt b)] (names := [Str.ofString "data"]) ⟨⟨_, _, _, rfl⟩, rfl, ?_, rfl, rfl, rfl, ?_, ?_, ?_, ?_, rfl, rfl, rfl⟩ hA rfl rfl ?_ rfl ?_
  · kernel_rfl
  · decide
  · intro x hx; rcases List.mem_cons.mp hx with rfl | hx; exact rfl; cases hx
  · decide
  · intro x hx; rcases List.mem_cons.mp hx with rfl | hx; exact rfl; cases hx
  · intro s vs gdv hl
    match vs, hl with
    | [v0], _ => exact BindsTo.of_eq rfl
  · intro env hK
    walk_at "assign"
    walk_at "if"
    · intro h; simp at h
    intro _
    refine ex_nil (go_next ?_)
    walk_at "if"
    · intro _
      walk_at "ret"
      exact rfl
    · intro h; simp at h
end
section
noncomputable def b64arr : Array UInt8 := #[65, 66, 67, 68, 69, 70, 71, 72, 73, 74, 75, 76, 77, 78, 79, 80, 81, 82, 83, 84, 85, 86, 87, 88, 89, 90, 97, 98, 99, 100, 101, 102, 103, 104, 105, 106, 107, 108, 109, 110, 111, 112, 113, 114, 115, 116, 117, 118, 119, 120, 121, 122, 48, 49, 50, 51, 52, 53, 54, 55, 56, 57, 43, 47]
/-- the letter of a six -/
noncomputable def dg (c : Int) : Int := (KBw.bInts b64arr).getD (c % 64).toNat 0
noncomputable def encC (lc b : Int) : Int := (lc * 256 + b) % 65536
noncomputable def enc : List Int → Int → Int → List Int
  | [], lc, lb => if lb = 2 then [dg (lc % 4 * 16), 61, 61] else if lb = 4 then [dg (lc % 16 * 4), 61] else []
  | b :: bs, lc, lb => if lb = 4 then dg (encC lc b / 64) :: dg (encC lc b) :: enc bs (encC lc b) 0 else if lb = 2 then dg (encC lc b / 16) :: enc bs (encC lc b) 4 else dg (encC lc b / 4) :: enc bs (encC lc b) 2
theorem dg_b (c : Int) : 0 ≤ dg c ∧ dg c < 256 := KBw.getD_in fun k hk => KBw.ints_in hk
theorem enc_in : ∀ (bs : List Int) (lc lb : Int), ∀ n ∈ enc bs lc lb, 0 ≤ n ∧ n < 256
  | [], lc, lb => by
    intro n hn
    unfold enc at hn
    split at hn
    · simp at hn; rcases hn with rfl | rfl
      · exact dg_b _
      · omega
    · split at hn
      · simp at hn; rcases hn with rfl | rfl
        · exact dg_b _
        · omega
      · cases hn
  | b :: bs, lc, lb => by
    intro n hn
    unfold enc at hn
    split at hn
    · rcases List.mem_cons.mp hn with rfl | hn
      · exact dg_b _
      rcases List.mem_cons.mp hn with rfl | hn
      · exact dg_b _
      · exact enc_in bs _ _ n hn
    · split at hn
      · rcases List.mem_cons.mp hn with rfl | hn
        · exact dg_b _
        · exact enc_in bs _ _ n hn
      · rcases List.mem_cons.mp hn with rfl | hn
        · exact dg_b _
        · exact enc_in bs _ _ n hn
theorem enc_len : ∀ (bs : List Int) (lc lb : Int), (enc bs lc lb).length ≤ 2 * bs.length + 3
  | [], lc, lb => by unfold enc; split <;> (try split) <;> simp
  | b :: bs, lc, lb => by
    unfold enc
    split
    · have := enc_len bs (encC lc b) 0; simp; omega
    · split
      · have := enc_len bs (encC lc b) 4; simp; omega
      · have := enc_len bs (encC lc b) 2; simp; omega
theorem encC_eq {lc b : Int} (h0 : 0 ≤ lc) (hb : 0 ≤ b) (hb2 : b < 256) : Builtin.bitAnd (Builtin.bitOr (lc * 2 ^ (8 : Int).toNat) b) 65535 = encC lc b := by
  rw [bitAnd_m16, show (8 : Int).toNat = 8 from rfl, or_disj 8 h0 hb (by simpa using hb2)]; rfl
theorem i_b64 {w : World} {A : Around} {x : Int} : Itm w A (.byt b64arr) (.int (Builtin.bitAnd x 63)) (.int (dg x)) := by
  have e : Builtin.bitAnd x 63 = x % 64 := bitAnd_m6 x
  have h := i_byt (w := w) (A := A) (b := b64arr) (i := Builtin.bitAnd x 63) (by rw [e]; omega) (by rw [e]; show x % 64 < 64; omega) (by decide)
  have e2 : ((b64arr.toList.getD (Builtin.bitAnd x 63).toNat 0).toNat : Int) = dg x := by
    rw [KBw.getD_ints, e]; rfl
  rw [e2] at h
  exact h
/-- a letter of the table -/
theorem i_b64' {w : World} {A : Around} {x : Int} (h0 : 0 ≤ x) (h1 : x < 64) : Itm w A (.byt b64arr) (.int x) (.int (dg x)) := by
  have h := i_byt (w := w) (A := A) (b := b64arr) (i := x) h0 (by show x < 64; omega) (by decide)
  have e2 : ((b64arr.toList.getD x.toNat 0).toNat : Int) = dg x := by
    unfold dg
    rw [KBw.getD_ints, Int.emod_eq_of_lt h0 h1]; rfl
  rw [e2] at h
  exact h
end
section
local macro_rules | `(tactic| walk_at "call") => `(tactic| first
  | ((with_reducible apply ev_callF (gv_buffer _)); walk_at "kd"; exact rfl; exact rfl; walk_at "evs"; exact buf_cal _ _ (by walk_at "ok") _)
  | ((with_reducible apply ev_callF (gv_truth _)); walk_at "kd"; exact rfl; exact rfl; walk_at "evs"; exact truth_cal _ _ (by walk_at "ok") _)
  | ((with_reducible apply ev_globB (Exists.choose_spec (gv_B64 _))); walk_at "kd"))
local macro_rules | `(tactic| walk_at "itm") => `(tactic| first | exact i_b64 | (refine i_b64' ?_ ?_ <;> first | omega | (rw [bitAnd_m2]; simp; omega) | (rw [bitAnd_m4]; simp; omega)))
local macro_rules | `(tactic| walk_at "ar") => `(tactic| first | decide | omega | (simp; done) | (simp; omega) | (rw [bitAnd_m2]; omega) | (rw [bitAnd_m4]; omega))
theorem b2a_cal (w : World) (A : Around) (hA : Ok 2 A) (b : Array UInt8) (hz : b.size ≤ 1000) : CalK w A (.ref 120) [.byt b] (Str.ofString "newline") (.bool false) (.byt (byteArr (enc (KBw.bInts b) 0 0))) := by
  refine calK_val (x := Str.ofString "data") ⟨⟨_, _, _, rfl⟩, rfl, ?_, rfl, rfl, rfl, ?_, ?_, ?_, ?_, rfl, rfl, rfl⟩ (hA.le (by decide)) ?_ rfl ?_
  · kernel_rfl
  · decide
  · intro x hx; rcases List.mem_cons.mp hx with rfl | hx; exact rfl; rcases List.mem_cons.mp hx with rfl | hx; exact rfl; cases hx
  · decide
  · intro x hx; rcases List.mem_cons.mp hx with rfl | hx; exact rfl; rcases List.mem_cons.mp hx with rfl | hx; exact rfl; cases hx
  · intro s v u _
    exact BindsTo.of_eq rfl
  · intro env hK
    walk_at "assign"
    walk_at "assign"
    walk_at "new"
    rename_i oa
    walk_at "assign"
    walk_at "assign"
    with_reducible apply ex_cons
    with_reducible apply ex_for
    · exact itr_byt (ev_name (by walk_at "mem")) (by walk_at "hh")
    · walk_at "kd"
    · rfl
    · intro _; rfl
    refine ForL.forget (σ' := [(Str.ofString "newline", .bool false), (Str.ofString "leftchar", .int 0), (Str.ofString "leftbits", .int 0)]) ?_ (by walk_at "sb")
    refine forL_ind (S := Int × Int × List Int) (fun s => [(Str.ofString "newline", .bool false), (Str.ofString "leftchar", .int s.1), (Str.ofString "leftbits", .int s.2.1)]) (fun s => some (Str.ofString "out", oa, dI s.2.2))
      (fun ds s => ∃ l, ds = dI l ∧ (∀ x ∈ l, 0 ≤ x ∧ x < 256) ∧ (s.2.1 = 0 ∨ s.2.1 = 2 ∨ s.2.1 = 4) ∧ 0 ≤ s.1 ∧ s.1 < 65536 ∧ s.2.2.length + 2 * l.length ≤ 2000 ∧ s.2.2 ++ enc l s.1 s.2.1 = enc (KBw.bInts b) 0 0) ?_ ?_ _ (0, 0, []) ⟨KBw.bInts b, rfl, fun x hx => KBw.ints_in hx, .inl rfl, by decide, by decide, by simp [KBw.ints_length]; omega, by simp⟩
    · rintro d ds ⟨lc, lb, acc⟩ ⟨l, hds, hin, hlb, h0, h1, hlen, hacc⟩
      cases l with
      | nil => cases hds
      | cons x l =>
        cases hds
        have hx := hin x (.head _)
        have hin' : ∀ y ∈ l, 0 ≤ y ∧ y < 256 := fun y hy => hin y (.tail _ hy)
        dsimp only at hlb h0 h1 hlen hacc ⊢
        refine ⟨_, by walk_at "kp", by walk_at "own", ?_⟩
        walk_at "assign"
        rw [encC_eq h0 hx.1 hx.2]
        walk_at "assign"
        have hc : 0 ≤ encC lc x ∧ encC lc x < 65536 := by unfold encC; omega
        rcases hlb with rfl | rfl | rfl
        ·
          with_reducible apply ex_cons
          refine ex_while 2 ⟨_, by walk_at "ts", fun _ => ?_, fun h => by simp at h⟩
          walk_at "append"
          walk_at "assign"
          refine ex_nil ⟨_, by walk_at "ts", fun h => by simp at h, fun _ => ?_⟩
          refine go_next (ex_nil ⟨(encC lc x, 0 + 8 - 6, acc ++ [dg (encC lc x / 4)]), by walk_at "sb", ?_, l, rfl, hin', by simp, hc.1, hc.2, by simp at hlen ⊢; omega, ?_⟩)
          · simp [dI, Int.fdiv_eq_ediv_of_nonneg]
          · rw [← hacc]; simp [enc]
        ·
          with_reducible apply ex_cons
          refine ex_while 2 ⟨_, by walk_at "ts", fun _ => ?_, fun h => by simp at h⟩
          walk_at "append"
          walk_at "assign"
          refine ex_nil ⟨_, by walk_at "ts", fun h => by simp at h, fun _ => ?_⟩
          refine go_next (ex_nil ⟨(encC lc x, 2 + 8 - 6, acc ++ [dg (encC lc x / 16)]), by walk_at "sb", ?_, l, rfl, hin', by simp, hc.1, hc.2, by simp at hlen ⊢; omega, ?_⟩)
          · simp [dI, Int.fdiv_eq_ediv_of_nonneg]
          · rw [← hacc]; simp [enc]
        ·
          with_reducible apply ex_cons
          refine ex_while 3 ⟨_, by walk_at "ts", fun _ => ?_, fun h => by simp at h⟩
          walk_at "append"
          walk_at "assign"
          refine ex_nil ⟨_, by walk_at "ts", fun _ => ?_, fun h => by simp at h⟩
          walk_at "append"
          walk_at "assign"
          refine ex_nil ⟨_, by walk_at "ts", fun h => by simp at h, fun _ => ?_⟩
          refine go_next (ex_nil ⟨(encC lc x, 4 + 8 - 6 - 6, acc ++ [dg (encC lc x / 64), dg (encC lc x)]), by walk_at "sb", ?_, l, rfl, hin', by simp, hc.1, hc.2, by simp at hlen ⊢; omega, ?_⟩)
          · simp [dI, Int.fdiv_eq_ediv_of_nonneg]
          · rw [← hacc]; simp [enc]
    · rintro ⟨lc, lb, acc⟩ ⟨l, hds, hin, hlb, h0, h1, hlen, hacc⟩
      cases l with
      | cons => cases hds
      | nil =>
        dsimp only at hlb h0 h1 hlen hacc ⊢
        refine ex_nil (go_next ?_)
        refine ex_join (fun σ o => ∃ acc', Sb [(Str.ofString "newline", .bool false)] σ ∧ o = some (Str.ofString "out", oa, dI acc') ∧ acc' = enc (KBw.bInts b) 0 0) ?_ ?_
        · rcases hlb with rfl | rfl | rfl
          · with_reducible apply ex_if
            · walk_at "ts"
            · intro h; simp at h
            intro _
            walk_at "if"
            · intro h; simp at h
            intro _
            refine ex_nil (go_next (ex_nil ⟨rfl, acc, by walk_at "sb", rfl, ?_⟩))
            rw [← hacc]; simp [enc]
          · with_reducible apply ex_if
            · walk_at "ts"
            · intro _
              walk_at "append"
              walk_at "append"
              walk_at "append"
              refine ex_nil ⟨rfl, acc ++ [dg (lc % 4 * 16), 61, 61], by walk_at "sb", ?_, ?_⟩
              · simp [dI, bitAnd_m2]
              · rw [← hacc]; simp [enc]
            · intro h; simp at h
          · with_reducible apply ex_if
            · walk_at "ts"
            · intro h; simp at h
            intro _
            walk_at "if"
            · intro _
              walk_at "append"
              walk_at "append"
              refine ex_nil (go_next (ex_nil ⟨rfl, acc ++ [dg (lc % 16 * 4), 61], by walk_at "sb", ?_, ?_⟩))
              · simp [dI, bitAnd_m4]
              · rw [← hacc]; simp [enc]
            · intro h; simp at h
        · rintro σ o ⟨acc', hsb, rfl, hacc'⟩
          refine ex_forget hsb ?_
          walk_at "if"
          · intro h; simp at h
          intro _
          refine ex_nil (go_next ?_)
          refine ex_freeze ?_
          with_reducible apply ex_cons
          with_reducible apply ex_ret
          · with_reducible apply ev_callT (gv_bytes _)
            · walk_at "kd"
            · walk_at "evs"
            · subst hacc'
              have hl := enc_len (KBw.bInts b) 0 0
              exact cl_bytes (by walk_at "hh") (enc_in _ _ _) (by rw [KBw.ints_length] at hl; omega)
          · exact rfl
end
section
noncomputable def inS (x c : Str) : Bool := !(Builtin.Str.occurrences x c 0 x.length 1).isEmpty
noncomputable def bI (b : Bool) : Int := if b then 1 else 0
noncomputable def bitA (row : Str) (p : Int) : Int := bI (inS (Str.ofString "sStT") (Txt.item row p))
noncomputable def bitB (row : Str) (p : Int) : Int := bI (inS (Str.ofString "rwxst") (Txt.item row p))
noncomputable def kindOf (row : Str) : Int := Txt.find (Str.ofString "?pc?d?b?-?l?s???") (Txt.item row 0)
noncomputable def bitsOf (row : Str) : List Int := [3, 6, 9].map (bitA row) ++ [1, 2, 3, 4, 5, 6, 7, 8, 9].map (bitB row) ++ [8, 4, 2, 1].map fun x => ((kindOf row).fdiv x).fmod 2
local macro_rules | `(tactic| walk_at "call") => `(tactic| first
  | ((with_reducible apply ev_callT (gv_int _)); walk_at "kd"; walk_at "evs"; exact cl_intBool)
  | ((with_reducible apply ev_meth1 (mt_str F.slot_str_find F.type_str_find)); walk_at "ev"; walk_at "ev"; exact cl_find; exact rfl; exact rfl; exact rfl))
local macro_rules | `(tactic| walk_at "bin") => `(tactic| ((with_reducible apply b_div) <;> omega))
theorem bits_cal (w : World) (A : Around) (hA : Ok 1 A) (row : Str) (h : row.length = 10) : Cal w A (.ref 211) [.str row] (.list (dI (bitsOf row))) := by
  refine cal_own [(Str.ofString "row", .str row)] (names := [Str.ofString "row"]) ⟨⟨_, _, _, rfl⟩, rfl, ?_, rfl, rfl, rfl, ?_, ?_, ?_, ?_, rfl, rfl, rfl⟩ hA rfl rfl ?_ ?_
  · kernel_rfl
  · decide
  · intro x hx; rcases List.mem_cons.mp hx with rfl | hx; exact rfl; cases hx
  · decide
  · intro x hx; rcases List.mem_cons.mp hx with rfl | hx; exact rfl; cases hx
  · intro s vs gdv hl
    match vs, hl with
    | [v0], _ => exact BindsTo.of_eq rfl
  · intro env hK
    walk_at "new"
    rename_i oa
    with_reducible apply ex_cons
    with_reducible apply ex_for
    · refine itr_tup (ds := [.int 3, .int 6, .int 9]) ?_ (by walk_at "hh") rfl (by decide)
      walk_at "evs"
    · walk_at "kd"
    · rfl
    · intro _; rfl
    refine forL_ind (S := List Int) (fun _ => [(Str.ofString "row", .str row)]) (fun acc => some (Str.ofString "bits", oa, dI acc))
      (fun ds acc => ∃ l, ds = dI l ∧ (∀ x ∈ l, 0 ≤ x ∧ x < 10) ∧ acc.length + l.length ≤ 100 ∧ acc ++ l.map (bitA row) = [3, 6, 9].map (bitA row)) ?_ ?_ _ [] ⟨[3, 6, 9], rfl, by decide, by decide, rfl⟩
    · rintro d ds acc ⟨l, hds, hin, hlen, hacc⟩
      cases l with
      | nil => cases hds
      | cons x l =>
        cases hds
        have hx := hin x (.head _)
        refine ⟨_, by walk_at "kp", by walk_at "own", ?_⟩
        simp only [List.length_cons] at hlen
        walk_at "append"
        refine ex_nil ⟨acc ++ [bitA row x], by walk_at "sb", ?_, l, rfl, fun y hy => hin y (.tail _ hy), by simp; omega, by rw [← hacc]; simp⟩
        simp [dI, bitA, bI, inS]
    · rintro acc ⟨l, hds, hin, hlen, hacc⟩
      cases l with
      | cons => cases hds
      | nil =>
        refine ex_nil (go_next ?_)
        simp only [List.map_nil, List.append_nil] at hacc
        subst hacc
        with_reducible apply ex_cons
        with_reducible apply ex_for
        · refine itr_rng (ev_range2 (a := 1) (b := 10) (gv_range _) ?_ ?_) (by walk_at "hh") (n := 9) (by decide) (by decide)
          · walk_at "kd"
          · walk_at "evs"
        · walk_at "kd"
        · rfl
        · intro _; rfl
        refine forL_ind (S := List Int) (fun _ => [(Str.ofString "row", .str row)]) (fun acc => some (Str.ofString "bits", oa, dI acc))
          (fun ds acc => ∃ l, ds = dI l ∧ (∀ x ∈ l, 0 ≤ x ∧ x < 10) ∧ acc.length + l.length ≤ 100 ∧ acc ++ l.map (bitB row) = [3, 6, 9].map (bitA row) ++ [1, 2, 3, 4, 5, 6, 7, 8, 9].map (bitB row)) ?_ ?_ _ ([3, 6, 9].map (bitA row)) ⟨[1, 2, 3, 4, 5, 6, 7, 8, 9], rfl, by decide, by simp, rfl⟩
        · rintro d ds acc ⟨l, hds, hin, hlen, hacc⟩
          cases l with
          | nil => cases hds
          | cons x l =>
            cases hds
            have hx := hin x (.head _)
            refine ⟨_, by walk_at "kp", by walk_at "own", ?_⟩
            simp only [List.length_cons] at hlen
            walk_at "append"
            refine ex_nil ⟨acc ++ [bitB row x], by walk_at "sb", ?_, l, rfl, fun y hy => hin y (.tail _ hy), by simp; omega, by rw [← hacc]; simp⟩
            simp [dI, bitB, bI, inS]
        · rintro acc ⟨l, hds, hin, hlen, hacc⟩
          cases l with
          | cons => cases hds
          | nil =>
            refine ex_nil (go_next ?_)
            simp only [List.map_nil, List.append_nil] at hacc
            walk_at "assign"
            with_reducible apply ex_cons
            with_reducible apply ex_for
            · refine itr_tup (ds := [.int 8, .int 4, .int 2, .int 1]) ?_ (by walk_at "hh") rfl (by decide)
              walk_at "evs"
            · walk_at "kd"
            · rfl
            · intro _; rfl
            refine forL_ind (S := List Int) (fun _ => [(Str.ofString "kind", .int (kindOf row)), (Str.ofString "row", .str row)]) (fun acc => some (Str.ofString "bits", oa, dI acc))
              (fun ds acc => ∃ l, ds = dI l ∧ (∀ x ∈ l, 1 ≤ x ∧ x < 10) ∧ acc.length + l.length ≤ 100 ∧ acc ++ l.map (fun x => ((kindOf row).fdiv x).fmod 2) = bitsOf row) ?_ ?_ _ acc ⟨[8, 4, 2, 1], rfl, by decide, by rw [hacc]; simp, by rw [hacc]; rfl⟩
            · rintro d ds acc ⟨l, hds, hin, hlen, hacc⟩
              cases l with
              | nil => cases hds
              | cons x l =>
                cases hds
                have hx := hin x (.head _)
                refine ⟨_, by walk_at "kp", by walk_at "own", ?_⟩
                simp only [List.length_cons] at hlen
                walk_at "append"
                refine ex_nil ⟨acc ++ [((kindOf row).fdiv x).fmod 2], by walk_at "sb", ?_, l, rfl, fun y hy => hin y (.tail _ hy), by simp; omega, by rw [← hacc]; simp⟩
                simp [dI]
            · rintro acc ⟨l, hds, hin, hlen, hacc⟩
              cases l with
              | cons => cases hds
              | nil =>
                refine ex_nil (go_next ?_)
                with_reducible apply ex_cons
                with_reducible apply ex_retOwn
                refine go_own ⟨rfl, Str.ofString "bits", oa, ?_⟩
                rw [← hacc]; simp
end
section
theorem i_listI {w : World} {A : Around} {ns : List Int} {i : Int} (h0 : 0 ≤ i) (h1 : i < ns.length) (h2 : ns.length ≤ 1000000) : Itm w A (.list (dI ns)) (.int i) (.int (ns.getD i.toNat 0)) := by
  refine i_list h0 (by omega) ?_
  have : i.toNat < ns.length := by omega
  simp [dI, List.getD, this]
noncomputable def kinds : List Int := [8, 4, 10, 12, 6, 2, 1]
noncomputable def modeY (y : Int) : Int := kinds.getD ((y.fdiv 65536).fmod 7).toNat 0 * 4096 + six y * 64 + six (y.fdiv 256)
noncomputable def modeOf (x : Int) : Int := modeY (x.fmod 1000000000)
theorem fmod_b (a : Int) {b : Int} (hb : 0 < b) : 0 ≤ a.fmod b ∧ a.fmod b < b := ⟨Int.fmod_nonneg_of_pos _ hb, Int.fmod_lt_of_pos _ hb⟩
theorem six_b (n : Int) : 0 ≤ six n ∧ six n < 64 := by
  unfold six
  have h1 := fmod_b n (b := 4) (by decide)
  have h2 := fmod_b (n.fdiv 4) (b := 64) (by decide)
  split <;> omega
local macro_rules | `(tactic| walk_at "call") => `(tactic| ((with_reducible apply ev_callF (gv_law_six _)); walk_at "kd"; exact rfl; exact rfl; walk_at "evs"; exact six_cal _ _ (by walk_at "ok") _))
theorem modes_cal (w : World) (A : Around) (hA : Ok 2 A) (ns : List Int) (hl : ns.length ≤ 63) : Cal w A (.ref 204) [.list (dI ns)] (.list (dI (36862 :: (ns.take 9).map modeOf))) := by
  refine cal_own [(Str.ofString "script", .list (dI ns))] (names := [Str.ofString "script"]) ⟨⟨_, _, _, rfl⟩, rfl, ?_, rfl, rfl, rfl, ?_, ?_, ?_, ?_, rfl, rfl, rfl⟩ (hA.le (by decide)) rfl rfl ?_ ?_
  · kernel_rfl
  · decide
  · intro x hx; rw [List.mem_singleton.mp hx]; rfl
  · decide
  · intro x hx; rw [List.mem_singleton.mp hx]; rfl
  · intro s vs _ hl
    match vs, hl with
    | [v], _ => exact BindsTo.of_eq rfl
  · intro env hK
    walk_at "new"
    rename_i oa
    with_reducible apply ex_cons
    with_reducible apply ex_for
    · refine itr_list (ev_slTo (ds := dI ns) (k := 9) ?_ ?_ (by decide) ?_) (by walk_at "hh")
      · walk_at "ev"
      · walk_at "ev"
      · simp; omega
    · walk_at "kd"
    · rfl
    · intro _; rfl
    rw [show (List.take (Int.toNat 9) (dI ns)) = dI (ns.take 9) from by simp [dI, List.map_take]]
    refine forL_ind (S := List Int) (fun _ => [(Str.ofString "script", .list (dI ns))]) (fun acc => some (Str.ofString "modes", oa, dI acc))
      (fun ds acc => ∃ l, ds = dI l ∧ acc.length + l.length ≤ 10 ∧ acc ++ l.map modeOf = 36862 :: (ns.take 9).map modeOf) ?_ ?_ _ [36862] ⟨ns.take 9, rfl, by simp; omega, rfl⟩
    · rintro d ds acc ⟨l, hds, hlen, hacc⟩
      cases l with
      | nil => cases hds
      | cons x l =>
        cases hds
        refine ⟨_, by walk_at "kp", by walk_at "own", ?_⟩
        walk_at "assign"
        have hy : (x.fmod (10 ^ (9 : Int).toNat)) = x.fmod 1000000000 := rfl
        rw [hy]
        with_reducible apply ex_cons
        with_reducible apply ex_assign
        · with_reducible apply ev_item
          · walk_at "ev"
          · walk_at "ev"
          · have h7 := fmod_b ((x.fmod 1000000000).fdiv 65536) (b := 7) (by decide)
            exact i_listI (ns := kinds) h7.1 (by simpa [kinds] using h7.2) (by decide)
          · exact rfl
          · intros; exact rfl
        · walk_at "kp"
        · walk_at "kd"
        · exact rfl
        · walk_at "own"
        · exact rfl
        with_reducible refine go_next ?_
        have hb1 := six_b (x.fmod 1000000000)
        have hb2 := six_b ((x.fmod 1000000000).fdiv 256)
        have hk : 0 ≤ kinds.getD (((x.fmod 1000000000).fdiv 65536).fmod 7).toNat 0 ∧ kinds.getD (((x.fmod 1000000000).fdiv 65536).fmod 7).toNat 0 ≤ 12 := by
          have h7 := fmod_b ((x.fmod 1000000000).fdiv 65536) (b := 7) (by decide)
          generalize (((x.fmod 1000000000).fdiv 65536).fmod 7) = z at h7
          have : z = 0 ∨ z = 1 ∨ z = 2 ∨ z = 3 ∨ z = 4 ∨ z = 5 ∨ z = 6 := by omega
          rcases this with rfl | rfl | rfl | rfl | rfl | rfl | rfl <;> decide
        walk_at "append"
        refine ex_nil ⟨acc ++ [modeOf x], by walk_at "sb", ?_, l, rfl, by simp at hlen ⊢; omega, by rw [← hacc]; simp⟩
        simp [dI, modeOf, modeY]
    · rintro acc ⟨l, hds, hlen, hacc⟩
      cases l with
      | cons => cases hds
      | nil =>
        refine ex_nil (go_next ?_)
        with_reducible apply ex_cons
        with_reducible apply ex_retOwn
        refine go_own ⟨rfl, Str.ofString "modes", oa, ?_⟩
        rw [← hacc]; simp
end
section
noncomputable def tails : List Str := [Str.ofString "-x", Str.ofString "Ss", Str.ofString "-x", Str.ofString "Tt"]
noncomputable def r3 (n p : Int) : Int := ((n.fdiv 16).fdiv (8 ^ (2 - p).toNat)).fmod 8
noncomputable def r2 (n p : Int) : Int := ((n.fdiv 8192).fdiv (2 ^ (2 - p).toNat)).fmod 2
noncomputable def rowA (n p : Int) : Str := Txt.item (Str.ofString "-r") ((r3 n p).fdiv 4) ++ Txt.item (Str.ofString "-w") (((r3 n p).fdiv 2).fmod 2)
noncomputable def rowB (n p : Int) : Str := Txt.item (tails.getD (r2 n p + 2 * (p.fdiv 2)).toNat (Str.ofString "-x")) ((r3 n p).fmod 2)
noncomputable def rowStep (n : Int) (row : Str) (p : Int) : Str := row ++ rowA n p ++ rowB n p
noncomputable def rowOf (n : Int) : Str := [0, 1, 2].foldl (rowStep n) (Txt.item (Str.ofString "?pc?d?b?-?l?s???") (n.fmod 16))
theorem i_listS {w : World} {A : Around} {ns : List Str} {i : Int} {d : Str} (h0 : 0 ≤ i) (h1 : i < ns.length) (h2 : ns.length ≤ 1000000) : Itm w A (.list (dS ns)) (.int i) (.str (ns.getD i.toNat d)) := by
  refine i_list h0 (by omega) ?_
  have : i.toNat < ns.length := by omega
  simp [dS, List.getD, this]
theorem tails_len (i : Nat) : (tails.getD i (Str.ofString "-x")).length = 2 := by
  match i with
  | 0 => rfl
  | 1 => rfl
  | 2 => rfl
  | 3 => rfl
  | _ + 4 => rfl
theorem rowA_len (n p : Int) : (rowA n p).length = 2 := rfl
theorem rowB_len (n p : Int) : (rowB n p).length = 1 := rfl
theorem str_len_append (x y : Str) : (x ++ y).length = x.length + y.length := Str.length_append ..
local macro_rules | `(tactic| walk_at "bin") => `(tactic| ((with_reducible apply b_adds); (rw [sizeLine_eq]; first | decide | (simp only [item_length]; omega))))
theorem row_cal (w : World) (A : Around) (hA : Ok 1 A) (n : Int) : Cal w A (.ref 225) [.int n] (.str (rowOf n)) := by
  refine cal_val [(Str.ofString "number", .int n)] (names := [Str.ofString "number"]) ⟨⟨_, _, _, rfl⟩, rfl, ?_, rfl, rfl, rfl, ?_, ?_, ?_, ?_, rfl, rfl, rfl⟩ hA rfl rfl ?_ rfl ?_
  · kernel_rfl
  · decide
  · intro x hx; rcases List.mem_cons.mp hx with rfl | hx; exact rfl; cases hx
  · decide
  · intro x hx; rcases List.mem_cons.mp hx with rfl | hx; exact rfl; cases hx
  · intro s vs gdv hl
    match vs, hl with
    | [v0], _ => exact BindsTo.of_eq rfl
  · intro env hK
    have h16 := fmod_b n (b := 16) (by decide)
    with_reducible apply ex_cons
    with_reducible apply ex_assign
    · with_reducible apply ev_item
      · walk_at "ev"
      · walk_at "ev"
      · exact i_str h16.1 (by show _ < ((16 : Nat) : Int); omega) (by decide)
      · exact rfl
      · intros; exact rfl
    · walk_at "kp"
    · walk_at "kd"
    · exact rfl
    · walk_at "own"
    · exact rfl
    with_reducible refine go_next ?_
    with_reducible apply ex_cons
    with_reducible apply ex_for
    · refine itr_rng (ev_range1 (n := 3) (gv_range _) ?_ ?_) (by walk_at "hh") (n := 3) (by decide) (by decide)
      · walk_at "kd"
      · walk_at "evs"
    · walk_at "kd"
    · rfl
    · intro _; rfl
    refine forL_ind (S := Str) (fun row => [(Str.ofString "row", .str row), (Str.ofString "number", .int n)]) (fun acc => none)
      (fun ds row => ∃ l : List Int, ds = dI l ∧ (∀ x ∈ l, 0 ≤ x ∧ x ≤ 2) ∧ row.length + 3 * l.length ≤ 100 ∧ l.foldl (rowStep n) row = rowOf n) ?_ ?_ _ _ ⟨[0, 1, 2], rfl, by decide, by simp only [item_length]; decide, rfl⟩
    · rintro d ds row ⟨l, hds, hin, hlen, hacc⟩
      cases l with
      | nil => cases hds
      | cons p l =>
        cases hds
        have hp := hin p (.head _)
        have hin' : ∀ x ∈ l, 0 ≤ x ∧ x ≤ 2 := fun y hy => hin y (.tail _ hy)
        simp only [List.length_cons] at hlen
        refine ⟨_, by walk_at "kp", by walk_at "own", ?_⟩
        with_reducible apply ex_cons
        with_reducible apply ex_assign (d := .int (r3 n p))
        · have : p = 0 ∨ p = 1 ∨ p = 2 := by omega
          clear hacc hlen hin hin'
          rcases this with rfl | rfl | rfl
          · unfold r3; walk_at "ev"
          · unfold r3; walk_at "ev"
          · unfold r3; walk_at "ev"
        · walk_at "kp"
        · walk_at "kd"
        · exact rfl
        · walk_at "own"
        · exact rfl
        with_reducible refine go_next ?_
        with_reducible apply ex_cons
        with_reducible apply ex_assign (d := .int (r2 n p))
        · have : p = 0 ∨ p = 1 ∨ p = 2 := by omega
          clear hacc hlen hin hin'
          rcases this with rfl | rfl | rfl
          · unfold r2; walk_at "ev"
          · unfold r2; walk_at "ev"
          · unfold r2; walk_at "ev"
        · walk_at "kp"
        · walk_at "kd"
        · exact rfl
        · walk_at "own"
        · exact rfl
        with_reducible refine go_next ?_
        have h3 : 0 ≤ r3 n p ∧ r3 n p < 8 := fmod_b _ (by decide)
        have h2 : 0 ≤ r2 n p ∧ r2 n p < 2 := fmod_b _ (by decide)
        have q4 : 0 ≤ (r3 n p).fdiv 4 ∧ (r3 n p).fdiv 4 < 2 := by rw [Int.fdiv_eq_ediv_of_nonneg _ (by decide)]; omega
        have q2 := fmod_b ((r3 n p).fdiv 2) (b := 2) (by decide)
        have q1 := fmod_b (r3 n p) (b := 2) (by decide)
        have qp : 0 ≤ p.fdiv 2 ∧ p.fdiv 2 ≤ 1 := by rw [Int.fdiv_eq_ediv_of_nonneg _ (by decide)]; omega
        with_reducible apply ex_cons
        with_reducible apply ex_aug (d := .str (row ++ rowA n p))
        · walk_at "mem"
        · with_reducible apply ev_bin
          · with_reducible apply ev_item
            · walk_at "ev"
            · walk_at "ev"
            · exact i_str q4.1 (by show _ < ((2 : Nat) : Int); omega) (by decide)
            · exact rfl
            · intros; exact rfl
          · with_reducible apply ev_item
            · walk_at "ev"
            · walk_at "ev"
            · exact i_str q2.1 (by show _ < ((2 : Nat) : Int); omega) (by decide)
            · exact rfl
            · intros; exact rfl
          · refine b_adds ?_
            simp only [item_length, sizeLine_eq]; decide
          · exact rfl
          · exact rfl
        · exact g_adds (b := rowA n p) (by rw [rowA_len, sizeLine_eq]; omega)
        · walk_at "kp"
        · walk_at "kd"
        · walk_at "own"
        · exact rfl
        · exact rfl
        with_reducible refine go_next ?_
        with_reducible apply ex_cons
        with_reducible apply ex_aug (d := .str (rowStep n row p))
        · walk_at "mem"
        · with_reducible apply ev_item
          · with_reducible apply ev_item
            · walk_at "ev"
            · walk_at "ev"
            · exact i_listS (ns := tails) (d := Str.ofString "-x") (by omega) (by show _ < ((4 : Nat) : Int); omega) (by decide)
            · exact rfl
            · intros; exact rfl
          · walk_at "ev"
          · exact i_str q1.1 (by rw [tails_len]; omega) (by rw [tails_len]; decide)
          · exact rfl
          · intros; exact rfl
        · exact g_adds (b := rowB n p) (by rw [str_len_append, rowA_len, rowB_len, sizeLine_eq]; omega)
        · walk_at "kp"
        · walk_at "kd"
        · walk_at "own"
        · exact rfl
        · exact rfl
        with_reducible refine go_next ?_
        refine ex_nil ⟨rowStep n row p, by walk_at "sb", rfl, l, rfl, hin', ?_, hacc⟩
        unfold rowStep
        rw [str_len_append, str_len_append, rowA_len, rowB_len]; omega
    · rintro row ⟨l, hds, hin, hlen, hacc⟩
      cases l with
      | cons => cases hds
      | nil =>
        refine ex_nil (go_next ?_)
        walk_at "ret"
        rw [← hacc]; rfl
end
section
noncomputable def sixAt (bits : List Int) (s : Int) : List Int := (bits.drop s.toNat).take 6
noncomputable def wStep (sx : List Int) (v k : Int) : Int := v * 2 + sx.getD k.toNat 0
noncomputable def worthOf (sx : List Int) : Int := [0, 1, 2, 3, 4, 5].foldl (wStep sx) 0
noncomputable def let62 : Str := Str.ofString "ABCDEFGHIJKLMNOPQRSTUVWXYZabcdefghijklmnopqrstuvwxyz0123456789"
noncomputable def isEnd (sg : Str) : Bool := sg == Str.ofString "\r" || sg == Str.ofString "\n"
noncomputable def piece (sg : Str) (fr : Bool) : Str := if isEnd sg then Str.ofString "\r\n" else if sg == Str.ofString "." && fr then Str.ofString ".." else sg
noncomputable def mailStep (L : Str) (bits : List Int) (m : Str × Bool × Int) (s : Int) : Str × Bool × Int :=
  (m.1 ++ piece (Txt.item L (worthOf (sixAt bits s))) m.2.1, isEnd (Txt.item L (worthOf (sixAt bits s))), m.2.2 + 1)
noncomputable def mailEnd (bits : List Int) (pair : Str) : Str × Bool × Int := (rng 0 6 ((bits.length + 5) / 6)).foldl (mailStep (let62 ++ pair) bits) (Str.ofString "", true, 0)
noncomputable def mailOf (bits : List Int) (pair : Str) : Str := (mailEnd bits pair).1 ++ Txt.mul (Str.ofString "=") ((-(mailEnd bits pair).2.2).fmod 4)
theorem piece_len {sg : Str} (h : sg.length = 1) (fr : Bool) : (piece sg fr).length ≤ 2 := by
  unfold piece
  split
  · decide
  · split
    · decide
    · omega
theorem getD01 {l : List Int} (h : ∀ b ∈ l, b = 0 ∨ b = 1) (i : Nat) : l.getD i 0 = 0 ∨ l.getD i 0 = 1 := by
  by_cases hi : i < l.length
  · have : l.getD i 0 = l[i] := by simp [List.getD, hi]
    rw [this]; exact h _ (List.getElem_mem _)
  · left; simp [List.getD, List.getElem?_eq_none (by omega : l.length ≤ i)]
theorem six01 {bits : List Int} (h : ∀ b ∈ bits, b = 0 ∨ b = 1) (s : Int) : ∀ b ∈ sixAt bits s, b = 0 ∨ b = 1 := fun b hb => h b (List.mem_of_mem_drop (List.mem_of_mem_take hb))
theorem six_len (bits : List Int) (s : Int) : (sixAt bits s).length ≤ 6 := by unfold sixAt; simp; omega
theorem range6 (n : Nat) : Builtin.Range.rangeSize 0 (n : Int) 6 = (((n + 5) / 6 : Nat) : Int) := by
  unfold Builtin.Range.rangeSize
  simp
  omega
local macro_rules | `(tactic| walk_at "call") => `(tactic| first
  | ((with_reducible apply ev_callB (gv_len _)); walk_at "kd"; walk_at "evs"; (refine cl_lenL ?_; (simp; omega)))
  | ((with_reducible apply ev_or); walk_at "ev"; (intro _; walk_at "ev")))
theorem mail_cal (w : World) (A : Around) (hA : Ok 1 A) (bits : List Int) (pair : Str) (hb : ∀ b ∈ bits, b = 0 ∨ b = 1) (hl : bits.length ≤ 200) (hp : pair.length = 2) : Cal w A (.ref 218) [.list (dI bits), .str pair] (.str (mailOf bits pair)) := by
  refine cal_val [(Str.ofString "bits", .list (dI bits)), (Str.ofString "pair", .str pair)] (names := [Str.ofString "bits", Str.ofString "pair"]) ⟨⟨_, _, _, rfl⟩, rfl, ?_, rfl, rfl, rfl, ?_, ?_, ?_, ?_, rfl, rfl, rfl⟩ hA rfl rfl ?_ rfl ?_
  · kernel_rfl
  · decide
  · intro x hx; rcases List.mem_cons.mp hx with rfl | hx; exact rfl; rcases List.mem_cons.mp hx with rfl | hx; exact rfl; cases hx
  · decide
  · intro x hx; rcases List.mem_cons.mp hx with rfl | hx; exact rfl; rcases List.mem_cons.mp hx with rfl | hx; exact rfl; cases hx
  · intro s vs gdv hl
    match vs, hl with
    | [v0, v1], _ => exact BindsTo.of_eq rfl
  · intro env hK
    with_reducible apply ex_cons
    with_reducible apply ex_assign (d := .str (let62 ++ pair))
    · with_reducible apply ev_bin
      · walk_at "ev"
      · walk_at "ev"
      · refine b_adds ?_
        rw [hp, sizeLine_eq]; decide
      · exact rfl
      · exact rfl
    · walk_at "kp"
    · walk_at "kd"
    · exact rfl
    · walk_at "own"
    · exact rfl
    with_reducible refine go_next ?_
    have hL : (let62 ++ pair).length = 64 := by rw [str_len_append, hp]; decide
    walk_at "assign"
    walk_at "assign"
    walk_at "assign"
    with_reducible apply ex_cons
    with_reducible apply ex_for
    · refine itr_rng (ev_range3 (a := 0) (b := ((dI bits).length : Int)) (c := 6) (gv_range _) ?_ ?_ (by decide) (by decide)) (by walk_at "hh") (n := (bits.length + 5) / 6) ?_ ?_
      · walk_at "kd"
      · walk_at "evs"
      · rw [show (dI bits).length = bits.length from by simp]; simp [Builtin.Range.small, range6, Builtin.Range.rangeFitsLong]; omega
      · rw [show (dI bits).length = bits.length from by simp]; exact range6 _
    · walk_at "kd"
    · rfl
    · intro _; rfl
    refine ForL.forget (σ' := [(Str.ofString "mail", .str (Str.ofString "")), (Str.ofString "fresh", .bool true), (Str.ofString "figures", .int 0), (Str.ofString "letters", .str (let62 ++ pair)), (Str.ofString "bits", .list (dI bits))]) ?_ (by walk_at "sb")
    refine forL_ind (S := Str × Bool × Int) (fun s => [(Str.ofString "mail", .str s.1), (Str.ofString "fresh", .bool s.2.1), (Str.ofString "figures", .int s.2.2), (Str.ofString "letters", .str (let62 ++ pair)), (Str.ofString "bits", .list (dI bits))]) (fun _ => none)
      (fun ds s => ∃ l : List Int, ds = dI l ∧ (∀ x ∈ l, 0 ≤ x ∧ x ≤ 1000) ∧ s.1.length + 2 * l.length ≤ 1000 ∧ l.foldl (mailStep (let62 ++ pair) bits) s = mailEnd bits pair) ?_ ?_ _ (Str.ofString "", true, 0) ⟨_, rfl, ?_, ?_, rfl⟩
    · rintro d ds ⟨m, fr, fg⟩ ⟨l, hds, hin, hlen, hacc⟩
      cases l with
      | nil => cases hds
      | cons p l =>
        cases hds
        have hp := hin p (.head _)
        have hin' : ∀ x ∈ l, 0 ≤ x ∧ x ≤ 1000 := fun y hy => hin y (.tail _ hy)
        dsimp only at hlen hacc ⊢
        simp only [List.length_cons] at hlen
        refine ⟨_, by walk_at "kp", by walk_at "own", ?_⟩
        have hsix := six01 hb p
        have hsl := six_len bits p
        with_reducible apply ex_cons
        with_reducible apply ex_assign (d := .list (dI (sixAt bits p)))
        · have e : dI (sixAt bits p) = ((dI bits).drop p.toNat).take (p + 6 - p).toNat := by
            rw [show (p + 6 - p).toNat = 6 from by omega]
            simp [dI, sixAt, List.map_take, List.map_drop]
          rw [e]
          refine ev_slFT ?_ ?_ ?_ hp.1 (by omega) (by simp; omega)
          · walk_at "ev"
          · walk_at "ev"
          · walk_at "ev"
        · walk_at "kp"
        · walk_at "kd"
        · exact rfl
        · walk_at "own"
        · exact rfl
        with_reducible refine go_next ?_
        walk_at "assign"
        generalize hsx : sixAt bits p = sx at hsix hsl
        with_reducible apply ex_cons
        with_reducible apply ex_for
        · refine itr_rng (ev_range1 (n := 6) (gv_range _) ?_ ?_) (by walk_at "hh") (n := 6) (by decide) (by decide)
          · walk_at "kd"
          · walk_at "evs"
        · walk_at "kd"
        · rfl
        · intro _; rfl
        refine forL_ind (S := Int) (fun v => [(Str.ofString "worth", .int v), (Str.ofString "six", .list (dI sx)), (Str.ofString "mail", .str m), (Str.ofString "fresh", .bool fr), (Str.ofString "figures", .int fg), (Str.ofString "letters", .str (let62 ++ pair)), (Str.ofString "bits", .list (dI bits))]) (fun _ => none)
          (fun ds v => ∃ l : List Int, ds = dI l ∧ (∀ x ∈ l, 0 ≤ x ∧ x < 6) ∧ 0 ≤ v ∧ (v + 1) * 2 ^ l.length ≤ 64 ∧ l.foldl (wStep sx) v = worthOf sx) ?_ ?_ _ 0 ⟨[0, 1, 2, 3, 4, 5], rfl, by decide, by decide, by decide, rfl⟩ |>.forget (by walk_at "sb")
        · rintro d ds v ⟨l', hds, hin2, hv0, hv1, hacc2⟩
          cases l' with
          | nil => cases hds
          | cons k l' =>
            cases hds
            have hk := hin2 k (.head _)
            have g01 := getD01 hsix k.toNat
            refine ⟨_, by walk_at "kp", by walk_at "own", ?_⟩
            have hv2 : v ≤ 63 := by
              have h1 : (1 : Int) ≤ 2 ^ (k :: l').length := Int.pow_pos (by decide)
              have : (v + 1) * 1 ≤ (v + 1) * 2 ^ (k :: l').length := Int.mul_le_mul_of_nonneg_left h1 (by omega)
              omega
            with_reducible apply ex_cons
            with_reducible apply ex_assign (d := .int (wStep sx v k))
            · unfold wStep
              with_reducible apply ev_bin
              · walk_at "ev"
              · with_reducible apply ev_if
                · walk_at "ts"
                · intro h
                  simp at h
                  with_reducible apply ev_item
                  · walk_at "ev"
                  · walk_at "ev"
                  · exact i_listI hk.1 h (by omega)
                  · exact rfl
                  · intros; exact rfl
                · intro h
                  simp at h
                  rw [show sx.getD k.toNat 0 = 0 from by simp [List.getD, List.getElem?_eq_none (by omega : sx.length ≤ k.toNat)]]
                  walk_at "ev"
              · exact b_add
              · exact rfl
              · exact rfl
            · walk_at "kp"
            · walk_at "kd"
            · exact rfl
            · walk_at "own"
            · exact rfl
            with_reducible refine go_next ?_
            refine ex_nil ⟨wStep sx v k, by walk_at "sb", rfl, l', rfl, fun y hy => hin2 y (.tail _ hy), ?_, ?_, hacc2⟩
            · unfold wStep; omega
            · have h2 : (0 : Int) ≤ 2 ^ l'.length := Int.le_of_lt (Int.pow_pos (by decide))
              have h3 : (wStep sx v k + 1) * 2 ^ l'.length ≤ (v * 2 + 2) * 2 ^ l'.length := Int.mul_le_mul_of_nonneg_right (by unfold wStep; omega) h2
              have h4 : (v + 1) * 2 ^ (k :: l').length = (v * 2 + 2) * 2 ^ l'.length := by
                rw [List.length_cons, Int.pow_succ, show v * 2 + 2 = (v + 1) * 2 from by omega, Int.mul_assoc, Int.mul_comm 2]
              omega
        · rintro v ⟨l', hds, _, hv0, hv1, hacc2⟩
          cases l' with
          | cons => cases hds
          | nil =>
            refine ex_nil (go_next ?_)
            have hv : v = worthOf (sixAt bits p) := by rw [hsx]; exact hacc2
            have hv2 : v < 64 := by simp at hv1; omega
            with_reducible apply ex_cons
            with_reducible apply ex_assign (d := .str (Txt.item (let62 ++ pair) v))
            · with_reducible apply ev_item
              · walk_at "ev"
              · walk_at "ev"
              · exact i_str hv0 (by rw [hL]; omega) (by rw [hL]; decide)
              · exact rfl
              · intros; exact rfl
            · walk_at "kp"
            · walk_at "kd"
            · exact rfl
            · walk_at "own"
            · exact rfl
            with_reducible refine go_next ?_
            have hm : mailStep (let62 ++ pair) bits (m, fr, fg) p = (m ++ piece (Txt.item (let62 ++ pair) v) fr, isEnd (Txt.item (let62 ++ pair) v), fg + 1) := by rw [hv]; rfl
            have hsg : (Txt.item (let62 ++ pair) v).length = 1 := rfl
            generalize Txt.item (let62 ++ pair) v = sg at hm hsg
            refine ex_join (fun σ o => o = none ∧ Sb [(Str.ofString "mail", .str (m ++ piece sg fr)), (Str.ofString "sign", .str sg), (Str.ofString "figures", .int fg), (Str.ofString "letters", .str (let62 ++ pair)), (Str.ofString "bits", .list (dI bits))] σ) ?_ ?_
            · with_reducible apply ex_if
              · walk_at "ts"
              · intro h
                have h' : isEnd sg = true := by unfold isEnd; simpa using h
                rw [show piece sg fr = Str.ofString "\r\n" from by unfold piece; rw [if_pos h']]
                with_reducible apply ex_cons
                with_reducible apply ex_aug
                · walk_at "mem"
                · walk_at "ev"
                · refine g_adds ?_
                  rw [sizeLine_eq]; show m.length + 2 ≤ _; omega
                · walk_at "kp"
                · walk_at "kd"
                · walk_at "own"
                · exact rfl
                · exact rfl
                with_reducible refine go_next ?_
                exact ex_nil ⟨rfl, rfl, by walk_at "sb"⟩
              · intro h
                have h' : ¬ isEnd sg = true := by unfold isEnd; simpa using h
                walk_at "if"
                · intro h2
                  rw [show piece sg fr = Str.ofString ".." from by unfold piece; rw [if_neg h', if_pos (by simpa using h2)]]
                  with_reducible apply ex_cons
                  with_reducible apply ex_aug
                  · walk_at "mem"
                  · walk_at "ev"
                  · refine g_adds ?_
                    rw [sizeLine_eq]; show m.length + 2 ≤ _; omega
                  · walk_at "kp"
                  · walk_at "kd"
                  · walk_at "own"
                  · exact rfl
                  · exact rfl
                  with_reducible refine go_next ?_
                  exact ex_nil (go_next (ex_nil ⟨rfl, rfl, by walk_at "sb"⟩))
                · intro h2
                  rw [show piece sg fr = sg from by unfold piece; rw [if_neg h', if_neg (by simpa using h2)]]
                  with_reducible apply ex_cons
                  with_reducible apply ex_aug
                  · walk_at "mem"
                  · walk_at "ev"
                  · refine g_adds ?_
                    rw [sizeLine_eq]; omega
                  · walk_at "kp"
                  · walk_at "kd"
                  · walk_at "own"
                  · exact rfl
                  · exact rfl
                  with_reducible refine go_next ?_
                  exact ex_nil (go_next (ex_nil ⟨rfl, rfl, by walk_at "sb"⟩))
            · rintro σ o ⟨rfl, hsb⟩
              refine ex_forget hsb ?_
              walk_at "assign"
              walk_at "aug"
              refine ex_nil ⟨mailStep (let62 ++ pair) bits (m, fr, fg) p, ?_, rfl, l, rfl, hin', ?_, hacc⟩
              · rw [hm]; dsimp only; unfold isEnd; walk_at "sb"
              · rw [hm]
                have := piece_len hsg fr
                show (m ++ piece sg fr).length + _ ≤ _
                rw [str_len_append]; omega
    · rintro ⟨m, fr, fg⟩ ⟨l, hds, hin, hlen, hacc⟩
      cases l with
      | cons => cases hds
      | nil =>
        have hacc' : (m, fr, fg) = mailEnd bits pair := hacc
        dsimp only at hlen ⊢
        refine ex_nil (go_next ?_)
        have h4 := fmod_b (-fg) (b := 4) (by decide)
        have hz : (Txt.mul (Str.ofString "=") ((-fg).fmod 4)).length ≤ 3 := by
          generalize (-fg).fmod 4 = z at h4
          have : z = 0 ∨ z = 1 ∨ z = 2 ∨ z = 3 := by omega
          rcases this with rfl | rfl | rfl | rfl <;> decide
        with_reducible apply ex_cons
        with_reducible apply ex_ret
        · with_reducible apply ev_bin
          · walk_at "ev"
          · with_reducible apply ev_bin
            · walk_at "ev"
            · walk_at "ev"
            · exact b_muls (by decide) h4.1 (by omega)
            · exact rfl
            · exact rfl
          · refine b_adds ?_
            rw [sizeLine_eq]; omega
          · exact rfl
          · exact rfl
        refine go_ret ?_
        unfold mailOf
        rw [← hacc']
    · intro x hx
      simp only [rng, List.mem_map, List.mem_range] at hx
      obtain ⟨i, hi, rfl⟩ := hx
      omega
    · simp [rng]
      show 0 + _ ≤ _
      omega
end
section
theorem imode_cal (w : World) (A : Around) (hA : Ok 1 A) (m : Int) : Cal w A (.ref 143) [.int m] (.int (Builtin.bitAnd m 4095)) := by
  refine cal_val [(Str.ofString "mode", .int m)] (names := [Str.ofString "mode"]) ⟨⟨_, _, _, rfl⟩, rfl, ?_, rfl, rfl, rfl, ?_, ?_, ?_, ?_, rfl, rfl, rfl⟩ hA rfl rfl ?_ rfl ?_
  · kernel_rfl
  · decide
  · intro x hx; rcases List.mem_cons.mp hx with rfl | hx; exact rfl; cases hx
  · decide
  · intro x hx; rcases List.mem_cons.mp hx with rfl | hx; exact rfl; cases hx
  · intro s vs _ hl
    match vs, hl with
    | [v0], _ => exact BindsTo.of_eq rfl
  · intro env hK
    walk_at "ret"
    rfl
theorem ifmt_cal (w : World) (A : Around) (hA : Ok 1 A) (m : Int) : Cal w A (.ref 150) [.int m] (.int (Builtin.bitAnd m 61440)) := by
  refine cal_val [(Str.ofString "mode", .int m)] (names := [Str.ofString "mode"]) ⟨⟨_, _, _, rfl⟩, rfl, ?_, rfl, rfl, rfl, ?_, ?_, ?_, ?_, rfl, rfl, rfl⟩ hA rfl rfl ?_ rfl ?_
  · kernel_rfl
  · decide
  · intro x hx; rcases List.mem_cons.mp hx with rfl | hx; exact rfl; cases hx
  · decide
  · intro x hx; rcases List.mem_cons.mp hx with rfl | hx; exact rfl; cases hx
  · intro s vs _ hl
    match vs, hl with
    | [v0], _ => exact BindsTo.of_eq rfl
  · intro env hK
    walk_at "ret"
    rfl
noncomputable def b64val (c : Int) : Int := if 65 ≤ c ∧ c ≤ 90 then c - 65 else if 97 ≤ c ∧ c ≤ 122 then c - 71 else if 48 ≤ c ∧ c ≤ 57 then c + 4 else if c = 43 then 62 else if c = 47 then 63 else 64
theorem b64v_cal (w : World) (A : Around) (hA : Ok 1 A) (c : Int) : Cal w A (.ref 104) [.int c] (.int (b64val c)) := by
  refine cal_val [(Str.ofString "c", .int c)] (names := [Str.ofString "c"]) ⟨⟨_, _, _, rfl⟩, rfl, ?_, rfl, rfl, rfl, ?_, ?_, ?_, ?_, rfl, rfl, rfl⟩ hA rfl rfl ?_ rfl ?_
  · kernel_rfl
  · decide
  · intro x hx; rcases List.mem_cons.mp hx with rfl | hx; exact rfl; cases hx
  · decide
  · intro x hx; rcases List.mem_cons.mp hx with rfl | hx; exact rfl; cases hx
  · intro s vs _ hl
    match vs, hl with
    | [v0], _ => exact BindsTo.of_eq rfl
  · intro env hK
    walk_at "if"
    · intro h
      walk_at "ret"
      with_reducible refine go_ret ?_
      simp at h
      simp [b64val, h]
    intro h1
    refine ex_nil (go_next ?_)
    walk_at "if"
    · intro h
      walk_at "ret"
      with_reducible refine go_ret ?_
      simp at h h1
      have e1 : ¬ (65 ≤ c ∧ c ≤ 90) := by omega
      simp [b64val, h, e1]
    intro h2
    refine ex_nil (go_next ?_)
    walk_at "if"
    · intro h
      walk_at "ret"
      with_reducible refine go_ret ?_
      simp at h h1 h2
      have e1 : ¬ (65 ≤ c ∧ c ≤ 90) := by omega
      have e2 : ¬ (97 ≤ c ∧ c ≤ 122) := by omega
      simp [b64val, h, e1, e2]
    intro h3
    refine ex_nil (go_next ?_)
    walk_at "if"
    · intro h
      walk_at "ret"
      with_reducible refine go_ret ?_
      simp at h h1 h2 h3
      subst h
      rfl
    intro h4
    refine ex_nil (go_next ?_)
    walk_at "if"
    · intro h
      walk_at "ret"
      with_reducible refine go_ret ?_
      simp at h h1 h2 h3
      subst h
      rfl
    intro h5
    refine ex_nil (go_next ?_)
    walk_at "ret"
    simp at h1 h2 h3 h4 h5
    have e1 : ¬ (65 ≤ c ∧ c ≤ 90) := by omega
    have e2 : ¬ (97 ≤ c ∧ c ≤ 122) := by omega
    have e3 : ¬ (48 ≤ c ∧ c ≤ 57) := by omega
    simp [b64val, e1, e2, e3, h4, h5]
end
section
noncomputable def dec : List Int → Int → Int → Int → List Int → Option (List Int)
  | [], q, _, pads, acc => if q = 1 then none else if q ≠ 0 ∧ q + pads < 4 then none else some acc
  | c :: cs, q, lc, pads, acc =>
    if c = 61 then (if 2 ≤ q ∧ q + (pads + 1) ≤ 4 then dec cs q lc (pads + 1) acc else none)
    else if 64 ≤ b64val c then none
    else if pads ≠ 0 then none
    else if q = 0 then dec cs 1 (b64val c) 0 acc
    else if q = 1 then dec cs 2 (b64val c % 16) 0 (acc ++ [lc * 4 + b64val c / 16])
    else if q = 2 then dec cs 3 (b64val c % 4) 0 (acc ++ [lc * 16 + b64val c / 4])
    else dec cs 0 0 0 (acc ++ [lc * 64 + b64val c])
noncomputable def qOk (q lc : Int) : Prop := (q = 0 ∧ lc = 0) ∨ (q = 1 ∧ 0 ≤ lc ∧ lc < 64) ∨ (q = 2 ∧ 0 ≤ lc ∧ lc < 16) ∨ (q = 3 ∧ 0 ≤ lc ∧ lc < 4)
theorem b64val_b (c : Int) : 0 ≤ b64val c ∧ b64val c ≤ 64 := by
  unfold b64val
  repeat' split
  all_goals omega
theorem t_int {w : World} {A : Around} {i : Int} (s : Shared) (v : Value) : Im v (.int i) → wpAny (model prg w) A (truthy v) (fun r s' => Keeps s s' ∧ r = (i != 0)) (fun _ _ => False) s := by rintro ⟨t, rfl⟩; exact truthy_int ⟨kRefl s, rfl⟩
theorem or1 {lc v : Int} (h0 : 0 ≤ lc) (h1 : 0 ≤ v) (h2 : v < 64) : Builtin.bitOr (lc * 2 ^ (2 : Int).toNat) (v.fdiv (2 ^ (4 : Int).toNat)) = lc * 4 + v / 16 := by
  rw [show (2 : Int).toNat = 2 from rfl, show (2 : Int) ^ (4 : Int).toNat = 16 from rfl, Int.fdiv_eq_ediv_of_nonneg _ (by decide), or_disj 2 h0 (by omega) (by omega)]; rfl
theorem or2 {lc v : Int} (h0 : 0 ≤ lc) (h1 : 0 ≤ v) (h2 : v < 64) : Builtin.bitOr (lc * 2 ^ (4 : Int).toNat) (v.fdiv (2 ^ (2 : Int).toNat)) = lc * 16 + v / 4 := by
  rw [show (4 : Int).toNat = 4 from rfl, show (2 : Int) ^ (2 : Int).toNat = 4 from rfl, Int.fdiv_eq_ediv_of_nonneg _ (by decide), or_disj 4 h0 (by omega) (by omega)]; rfl
theorem or3 {lc v : Int} (h0 : 0 ≤ lc) (h1 : 0 ≤ v) (h2 : v < 64) : Builtin.bitOr (lc * 2 ^ (6 : Int).toNat) v = lc * 64 + v := by
  rw [show (6 : Int).toNat = 6 from rfl, or_disj 6 h0 (by omega) (by omega)]; rfl
local macro_rules | `(tactic| walk_at "call") => `(tactic| first
  | ((with_reducible apply ev_callF (gv_ascii_buffer _)); walk_at "kd"; exact rfl; exact rfl; walk_at "evs"; exact abuf_cal _ _ (by walk_at "ok") _)
  | ((with_reducible apply ev_callF (gv_truth _)); walk_at "kd"; exact rfl; exact rfl; walk_at "evs"; exact truth_cal _ _ (by walk_at "ok") _)
  | ((with_reducible apply ev_callF (gv_b64_value _)); walk_at "kd"; exact rfl; exact rfl; walk_at "evs"; exact b64v_cal _ _ (by walk_at "ok") _))
local macro_rules | `(tactic| walk_at "ts") => `(tactic| ((with_reducible apply ts_plain); walk_at "ev"; (intro _ _; exact t_int _ _); exact rfl; exact rfl))
noncomputable abbrev a2bSt (s : Int × Int × Int × Int × List Int) : St := [(Str.ofString "strict_mode", .bool true), (Str.ofString "quad_pos", .int s.1), (Str.ofString "leftchar", .int s.2.1), (Str.ofString "pads", .int s.2.2.1), (Str.ofString "i", .int s.2.2.2.1)]
theorem a2b_cal (w : World) (A : Around) (hA : Ok 2 A) (b : Array UInt8) (hz : b.size ≤ 1000) (out : List Int) (hd : dec (KBw.bInts b) 0 0 0 [] = some out) : CalK w A (.ref 112) [.byt b] (Str.ofString "strict_mode") (.bool true) (.byt (byteArr out)) := by
  refine calK_val (x := Str.ofString "data") ⟨⟨_, _, _, rfl⟩, rfl, ?_, rfl, rfl, rfl, ?_, ?_, ?_, ?_, rfl, rfl, rfl⟩ (hA.le (by decide)) ?_ rfl ?_
  · kernel_rfl
  · decide
  · intro x hx; rcases List.mem_cons.mp hx with rfl | hx; exact rfl; rcases List.mem_cons.mp hx with rfl | hx; exact rfl; cases hx
  · decide
  · intro x hx; rcases List.mem_cons.mp hx with rfl | hx; exact rfl; rcases List.mem_cons.mp hx with rfl | hx; exact rfl; cases hx
  · intro s v u _
    exact BindsTo.of_eq rfl
  · intro env hK
    walk_at "assign"
    walk_at "assign"
    walk_at "new"
    rename_i oa
    walk_at "assign"
    walk_at "assign"
    walk_at "assign"
    walk_at "assign"
    with_reducible apply ex_cons
    with_reducible apply ex_for
    · exact itr_byt (ev_name (by walk_at "mem")) (by walk_at "hh")
    · walk_at "kd"
    · rfl
    · intro _; rfl
    refine ForL.forget (σ' := [(Str.ofString "strict_mode", .bool true), (Str.ofString "quad_pos", .int 0), (Str.ofString "leftchar", .int 0), (Str.ofString "pads", .int 0), (Str.ofString "i", .int 0)]) ?_ (by walk_at "sb")
    refine forL_ind (S := Int × Int × Int × Int × List Int) a2bSt (fun s => some (Str.ofString "out", oa, dI s.2.2.2.2))
      (fun ds s => ∃ l, ds = dI l ∧ qOk s.1 s.2.1 ∧ 0 ≤ s.2.2.1 ∧ s.2.2.2.2.length + l.length ≤ 1000 ∧ (∀ x ∈ s.2.2.2.2, 0 ≤ x ∧ x < 256) ∧ dec l s.1 s.2.1 s.2.2.1 s.2.2.2.2 = some out) ?_ ?_ _ (0, 0, 0, 0, []) ⟨KBw.bInts b, rfl, .inl ⟨rfl, rfl⟩, by decide, by simp [KBw.ints_length]; omega, by simp, hd⟩
    · rintro d ds ⟨q, lc, pads, i, acc⟩ ⟨l, hds, hq, hp0, hlen, hin, hdec⟩
      cases l with
      | nil => cases hds
      | cons c l =>
        cases hds
        dsimp only [a2bSt] at hq hp0 hlen hin hdec ⊢
        simp only [List.length_cons] at hlen
        refine ⟨_, by walk_at "kp", by walk_at "own", ?_⟩
        walk_at "if"
        · intro h61
          have h61' : c = 61 := by simpa using h61
          rw [dec, if_pos h61'] at hdec
          walk_at "assign"
          walk_at "if"
          · intro h
            have h' : 2 ≤ q ∧ q + (pads + 1) ≤ 4 := by simpa using h
            rw [if_pos h'] at hdec
            walk_at "assign"
            with_reducible apply ex_cons
            refine ex_cont (go_cont (go_cont (go_cont ⟨(q, lc, pads + 1, i + 1, acc), by walk_at "sb", rfl, l, rfl, hq, by dsimp only; omega, by dsimp only; omega, hin, hdec⟩)))
          · intro h
            have h' : ¬ (2 ≤ q ∧ q + (pads + 1) ≤ 4) := by
              intro q'; simp at h; omega
            rw [if_neg h'] at hdec; cases hdec
        · intro h61
          have h61' : ¬ c = 61 := by simpa using h61
          refine ex_nil (go_next ?_)
          rw [dec, if_neg h61'] at hdec
          have hv := b64val_b c
          walk_at "assign"
          walk_at "if"
          · intro h
            have h' : 64 ≤ b64val c := by simpa using h
            rw [if_pos h'] at hdec; cases hdec
          · intro h
            have h' : ¬ 64 ≤ b64val c := by simpa using h
            rw [if_neg h'] at hdec
            refine ex_nil (go_next ?_)
            walk_at "if"
            · intro h
              have h' : pads ≠ 0 := by simpa using h
              rw [if_pos h'] at hdec; cases hdec
            · intro h
              have h2 : ¬ pads ≠ 0 := by simpa using h
              rw [if_neg h2] at hdec
              refine ex_nil (go_next ?_)
              walk_at "assign"
              refine ex_join (fun σ o => ∃ q' lc' acc', Sb [(Str.ofString "strict_mode", .bool true), (Str.ofString "quad_pos", .int q'), (Str.ofString "leftchar", .int lc'), (Str.ofString "pads", .int 0), (Str.ofString "i", .int i)] σ ∧ o = some (Str.ofString "out", oa, dI acc') ∧ qOk q' lc' ∧ acc'.length + l.length ≤ 1000 ∧ (∀ x ∈ acc', 0 ≤ x ∧ x < 256) ∧ dec l q' lc' 0 acc' = some out) ?_ ?_
              · generalize b64val c = v at hv h' hdec
                have hv64 : v < 64 := by omega
                rcases hq with ⟨rfl, rfl⟩ | ⟨rfl, hq0, hq1⟩ | ⟨rfl, hq0, hq1⟩ | ⟨rfl, hq0, hq1⟩
                · with_reducible apply ex_if
                  · walk_at "ts"
                  · intro _
                    rw [if_pos rfl] at hdec
                    walk_at "assign"
                    walk_at "assign"
                    exact ex_nil ⟨rfl, 1, v, acc, by walk_at "sb", rfl, .inr (.inl ⟨rfl, hv.1, hv64⟩), by omega, hin, hdec⟩
                  · intro h; simp at h
                · with_reducible apply ex_if
                  · walk_at "ts"
                  · intro h; simp at h
                  intro _
                  walk_at "if"
                  · intro _
                    rw [if_neg (by decide), if_pos rfl] at hdec
                    walk_at "assign"
                    walk_at "append"
                    walk_at "assign"
                    rw [or1 hq0 hv.1 hv64, bitAnd_m4]
                    refine ex_nil (go_next (ex_nil ⟨rfl, 2, v % 16, acc ++ [lc * 4 + v / 16], by walk_at "sb", by simp [dI], .inr (.inr (.inl ⟨rfl, by omega, by omega⟩)), by simp; omega, ?_, hdec⟩))
                    intro x hx
                    rcases List.mem_append.mp hx with hx | hx
                    · exact hin x hx
                    · rw [List.mem_singleton.mp hx]; omega
                  · intro h; simp at h
                · with_reducible apply ex_if
                  · walk_at "ts"
                  · intro h; simp at h
                  intro _
                  walk_at "if"
                  · intro h; simp at h
                  intro _
                  walk_at "if"
                  · intro _
                    rw [if_neg (by decide), if_neg (by decide), if_pos rfl] at hdec
                    walk_at "assign"
                    walk_at "append"
                    walk_at "assign"
                    rw [or2 hq0 hv.1 hv64, bitAnd_m2]
                    refine ex_nil (go_next (ex_nil (go_next (ex_nil ⟨rfl, 3, v % 4, acc ++ [lc * 16 + v / 4], by walk_at "sb", by simp [dI], .inr (.inr (.inr ⟨rfl, by omega, by omega⟩)), by simp; omega, ?_, hdec⟩))))
                    intro x hx
                    rcases List.mem_append.mp hx with hx | hx
                    · exact hin x hx
                    · rw [List.mem_singleton.mp hx]; omega
                  · intro h; simp at h
                · with_reducible apply ex_if
                  · walk_at "ts"
                  · intro h; simp at h
                  intro _
                  walk_at "if"
                  · intro h; simp at h
                  intro _
                  walk_at "if"
                  · intro h; simp at h
                  intro _
                  rw [if_neg (by decide), if_neg (by decide), if_neg (by decide)] at hdec
                  walk_at "assign"
                  walk_at "append"
                  walk_at "assign"
                  rw [or3 hq0 hv.1 hv64]
                  refine ex_nil (go_next (ex_nil (go_next (ex_nil ⟨rfl, 0, 0, acc ++ [lc * 64 + v], by walk_at "sb", by simp [dI], .inl ⟨rfl, rfl⟩, by simp; omega, ?_, hdec⟩))))
                  intro x hx
                  rcases List.mem_append.mp hx with hx | hx
                  · exact hin x hx
                  · rw [List.mem_singleton.mp hx]; omega
              · rintro σ o ⟨q', lc', acc', hsb, rfl, hq', hlen', hin', hdec'⟩
                refine ex_forget hsb ?_
                walk_at "assign"
                exact ex_nil ⟨(q', lc', 0, i + 1, acc'), by walk_at "sb", rfl, l, rfl, hq', Int.le_refl 0, hlen', hin', hdec'⟩
    · rintro ⟨q, lc, pads, i, acc⟩ ⟨l, hds, hq, hp0, hlen, hin, hdec⟩
      cases l with
      | cons => cases hds
      | nil =>
        dsimp only [a2bSt] at hq hp0 hlen hin hdec ⊢
        refine ex_nil (go_next ?_)
        rw [dec] at hdec
        walk_at "if"
        · intro h
          have h' : q = 1 := by simpa using h
          rw [if_pos h'] at hdec; cases hdec
        · intro h
          have h' : ¬ q = 1 := by simpa using h
          rw [if_neg h'] at hdec
          refine ex_nil (go_next ?_)
          walk_at "if"
          · intro h
            have h' : q ≠ 0 ∧ q + pads < 4 := by simpa using h
            rw [if_pos h'] at hdec; cases hdec
          · intro h
            have h' : ¬ (q ≠ 0 ∧ q + pads < 4) := by
              intro q'; simp at h; omega
            rw [if_neg h'] at hdec
            refine ex_nil (go_next ?_)
            refine ex_freeze ?_
            with_reducible apply ex_cons
            with_reducible apply ex_ret
            · with_reducible apply ev_callT (gv_bytes _)
              · walk_at "kd"
              · walk_at "evs"
              · exact cl_bytes (by walk_at "hh") hin (by simp at hlen; omega)
            · cases hdec; exact rfl
end
section
noncomputable def pick (m idx : Int) : List (Int × Str) → Str
  | [] => if idx = 0 then Str.ofString "?" else Str.ofString "-"
  | (b, c) :: t => if Builtin.bitAnd m (if idx = 0 then 61440 else b) = b then c else pick m idx t
structure TabK (w : World) (a : Addr) (t : List (Int × Str)) : Prop where
  k : ∃ ob n as, (KK w).lookup a = some ob ∧ ob.cls = .type "tuple" ∧ ob.data = .seq (List.map Value.ref as).toArray n ∧ as.length = t.length ∧
    ∀ i, i < as.length → ∃ ob n v u d e, (KK w).lookup (as.getD i 0) = some ob ∧ ob.cls = .type "tuple" ∧ ob.data = .seq #[v, u] n ∧ (t.map fun r => (D.int r.1, D.str r.2))[i]? = some (d, e) ∧ Im v d ∧ Im u e
noncomputable def tabs : List (Int × Addr × List (Int × Str)) := [
  (0, 158, [(40960, Str.ofString "l"), (49152, Str.ofString "s"), (32768, Str.ofString "-"), (24576, Str.ofString "b"), (16384, Str.ofString "d"), (8192, Str.ofString "c"), (4096, Str.ofString "p")]),
  (1, 160, [(256, Str.ofString "r")]),
  (2, 162, [(128, Str.ofString "w")]),
  (3, 166, [(2112, Str.ofString "s"), (2048, Str.ofString "S"), (64, Str.ofString "x")]),
  (4, 168, [(32, Str.ofString "r")]),
  (5, 170, [(16, Str.ofString "w")]),
  (6, 174, [(1032, Str.ofString "s"), (1024, Str.ofString "S"), (8, Str.ofString "x")]),
  (7, 176, [(4, Str.ofString "r")]),
  (8, 178, [(2, Str.ofString "w")]),
  (9, 182, [(513, Str.ofString "t"), (512, Str.ofString "T"), (1, Str.ofString "x")])]
theorem tabs_k (w : World) : ∀ r ∈ tabs, TabK w r.2.1 r.2.2 := by
  intro r hr
  have one : ∀ (p : Nat → Prop), p 0 → ∀ i, i < 1 → p i := fun p h i hi => by
    have : i = 0 := by omega
    subst this; exact h
  have three : ∀ (p : Nat → Prop), p 0 → p 1 → p 2 → ∀ i, i < 3 → p i := fun p h0 h1 h2 i hi => by
    match i, hi with
    | 0, _ => exact h0
    | 1, _ => exact h1
    | 2, _ => exact h2
  have seven : ∀ (p : Nat → Prop), p 0 → p 1 → p 2 → p 3 → p 4 → p 5 → p 6 → ∀ i, i < 7 → p i := fun p h0 h1 h2 h3 h4 h5 h6 i hi => by
    match i, hi with
    | 0, _ => exact h0
    | 1, _ => exact h1
    | 2, _ => exact h2
    | 3, _ => exact h3
    | 4, _ => exact h4
    | 5, _ => exact h5
    | 6, _ => exact h6
  rcases List.mem_cons.mp hr with rfl | hr
  · refine ⟨⟨_, _, [151, 152, 153, 154, 155, 156, 157], rfl, rfl, rfl, rfl, seven _ ?_ ?_ ?_ ?_ ?_ ?_ ?_⟩⟩ <;> exact ⟨_, _, _, _, _, _, rfl, rfl, rfl, rfl, ⟨_, rfl⟩, ⟨_, rfl⟩⟩
  rcases List.mem_cons.mp hr with rfl | hr
  · exact ⟨⟨_, _, [159], rfl, rfl, rfl, rfl, one _ ⟨_, _, _, _, _, _, rfl, rfl, rfl, rfl, ⟨_, rfl⟩, ⟨_, rfl⟩⟩⟩⟩
  rcases List.mem_cons.mp hr with rfl | hr
  · exact ⟨⟨_, _, [161], rfl, rfl, rfl, rfl, one _ ⟨_, _, _, _, _, _, rfl, rfl, rfl, rfl, ⟨_, rfl⟩, ⟨_, rfl⟩⟩⟩⟩
  rcases List.mem_cons.mp hr with rfl | hr
  · refine ⟨⟨_, _, [163, 164, 165], rfl, rfl, rfl, rfl, three _ ?_ ?_ ?_⟩⟩ <;> exact ⟨_, _, _, _, _, _, rfl, rfl, rfl, rfl, ⟨_, rfl⟩, ⟨_, rfl⟩⟩
  rcases List.mem_cons.mp hr with rfl | hr
  · exact ⟨⟨_, _, [167], rfl, rfl, rfl, rfl, one _ ⟨_, _, _, _, _, _, rfl, rfl, rfl, rfl, ⟨_, rfl⟩, ⟨_, rfl⟩⟩⟩⟩
  rcases List.mem_cons.mp hr with rfl | hr
  · exact ⟨⟨_, _, [169], rfl, rfl, rfl, rfl, one _ ⟨_, _, _, _, _, _, rfl, rfl, rfl, rfl, ⟨_, rfl⟩, ⟨_, rfl⟩⟩⟩⟩
  rcases List.mem_cons.mp hr with rfl | hr
  · refine ⟨⟨_, _, [171, 172, 173], rfl, rfl, rfl, rfl, three _ ?_ ?_ ?_⟩⟩ <;> exact ⟨_, _, _, _, _, _, rfl, rfl, rfl, rfl, ⟨_, rfl⟩, ⟨_, rfl⟩⟩
  rcases List.mem_cons.mp hr with rfl | hr
  · exact ⟨⟨_, _, [175], rfl, rfl, rfl, rfl, one _ ⟨_, _, _, _, _, _, rfl, rfl, rfl, rfl, ⟨_, rfl⟩, ⟨_, rfl⟩⟩⟩⟩
  rcases List.mem_cons.mp hr with rfl | hr
  · exact ⟨⟨_, _, [177], rfl, rfl, rfl, rfl, one _ ⟨_, _, _, _, _, _, rfl, rfl, rfl, rfl, ⟨_, rfl⟩, ⟨_, rfl⟩⟩⟩⟩
  rcases List.mem_cons.mp hr with rfl | hr
  · refine ⟨⟨_, _, [179, 180, 181], rfl, rfl, rfl, rfl, three _ ?_ ?_ ?_⟩⟩ <;> exact ⟨_, _, _, _, _, _, rfl, rfl, rfl, rfl, ⟨_, rfl⟩, ⟨_, rfl⟩⟩
  cases hr
noncomputable def picks (m : Int) : List Str := tabs.map fun r => pick m r.1 r.2.2
noncomputable def fileOf (m : Int) : Str := Txt.join (Str.ofString "") (picks m)
end
section
local macro_rules | `(tactic| walk_at "call") => `(tactic| ((with_reducible apply ev_callF (gv_S_IFMT _)); walk_at "kd"; exact rfl; exact rfl; walk_at "evs"; exact ifmt_cal _ _ (by walk_at "ok") _))
theorem pick_len (m idx : Int) : ∀ t : List (Int × Str), (∀ r ∈ t, r.2.length = 1) → (pick m idx t).length = 1
  | [], _ => by unfold pick; split <;> decide
  | (b, c) :: t, h => by
    unfold pick
    by_cases hc : Builtin.bitAnd m (if idx = 0 then 61440 else b) = b
    · rw [if_pos hc]; exact h _ (.head _)
    · rw [if_neg hc]; exact pick_len m idx t fun r hr => h r (.tail _ hr)
theorem picks_len (m : Int) : (picks m).length = 10 := by simp [picks, tabs]
theorem tabs_one : ∀ r ∈ tabs, ∀ q ∈ r.2.2, q.2.length = 1 := by decide
theorem picks_one (m : Int) : ∀ x ∈ picks m, x.length = 1 := by
  intro x hx
  unfold picks at hx
  obtain ⟨r, hr, rfl⟩ := List.mem_map.mp hx
  exact pick_len m _ _ (tabs_one r hr)
theorem sum_ones : ∀ (l : List Str), (∀ x ∈ l, x.length = 1) → (l.map (·.length)).sum = l.length
  | [], _ => rfl
  | x :: l, h => by
    rw [List.map_cons, List.sum_cons, sum_ones l fun y hy => h y (.tail _ hy), h x (.head _), List.length_cons]; omega
theorem file_cal (w : World) (A : Around) (hA : Ok 2 A) (m : Int) : Cal w A (.ref 190) [.int m] (.str (fileOf m)) := by
  refine cal_val [(Str.ofString "mode", .int m)] (names := [Str.ofString "mode"]) ⟨⟨_, _, _, rfl⟩, rfl, ?_, rfl, rfl, rfl, ?_, ?_, ?_, ?_, rfl, rfl, rfl⟩ (hA.le (by decide)) rfl rfl ?_ rfl ?_
  · kernel_rfl
  · decide
  · intro x hx; rcases List.mem_cons.mp hx with rfl | hx; exact rfl; cases hx
  · decide
  · intro x hx; rcases List.mem_cons.mp hx with rfl | hx; exact rfl; cases hx
  · intro s vs gdv hl
    match vs, hl with
    | [v0], _ => exact BindsTo.of_eq rfl
  · intro env hK
    walk_at "new"
    rename_i oa
    with_reducible apply ex_cons
    with_reducible apply ex_for2
    · refine itrP_enum (gv_enumerate _) ?_ (a := 183) ?_ (by walk_at "hh") rfl rfl rfl (ds := tabs.map fun r => D.ref r.2.1) ?_
      · walk_at "kd"
      · refine evs_cons ?_ evs_nil rfl
        exact ev_globR (gv_filemode_table _) (by walk_at "kd")
      · exact ⟨rfl, rfl, rfl, rfl, rfl, rfl, rfl, rfl, rfl, rfl, trivial⟩
    · walk_at "hh"
    · walk_at "kd"
    · rfl
    · walk_at "kd"
    · rfl
    · intro _; rfl
    refine forL2_ind (S := List Str) (fun _ => [(Str.ofString "mode", .int m)]) (fun acc => some (Str.ofString "perm", oa, dS acc))
      (fun ds acc => ∃ rows : List (Int × Addr × List (Int × Str)), ds = rows.map (fun r => (D.int r.1, D.ref r.2.1)) ∧ (∀ r ∈ rows, TabK w r.2.1 r.2.2) ∧ acc.length + rows.length ≤ 100 ∧ acc ++ rows.map (fun r => pick m r.1 r.2.2) = picks m) ?_ ?_ _ [] ⟨tabs, rfl, tabs_k w, by decide, rfl⟩
    · rintro d ds acc ⟨rows, hds, hK2, hlen, hacc⟩
      cases rows with
      | nil => cases hds
      | cons r rows =>
        obtain ⟨idx, ta, tb⟩ := r
        cases hds
        have hT := (hK2 _ (.head _)).k
        have hK3 : ∀ r ∈ rows, TabK w r.2.1 r.2.2 := fun y hy => hK2 y (.tail _ hy)
        obtain ⟨ob, n, as, k1, k2, k3, k4, k5⟩ := hT
        dsimp only at k1 k4 k5 ⊢
        simp only [List.length_cons] at hlen
        refine ⟨_, _, by walk_at "kp", by walk_at "kp", by walk_at "own", by walk_at "own", ?_⟩
        with_reducible apply ex_cons
        with_reducible apply ex_for2
        · refine itrP_tupK (ds := tb.map fun r => (D.int r.1, D.str r.2)) (ev_name (by walk_at "mem")) (by walk_at "hh") k1 k2 k3 (by rw [k4]; simp) k5
        · walk_at "hh"
        · walk_at "kd"
        · rfl
        · walk_at "kd"
        · rfl
        · intro _; rfl
        have fin : ∀ c : Str, c = pick m idx tb → ∃ s' : List Str, Sb [(Str.ofString "mode", D.int m)] [(Str.ofString "mode", D.int m)] ∧ (some (Str.ofString "perm", oa, dS acc ++ [D.str c]) : Own) = some (Str.ofString "perm", oa, dS s') ∧ ∃ rows' : List (Int × Addr × List (Int × Str)), rows.map (fun r => (D.int r.1, D.ref r.2.1)) = rows'.map (fun r => (D.int r.1, D.ref r.2.1)) ∧ (∀ r ∈ rows', TabK w r.2.1 r.2.2) ∧ s'.length + rows'.length ≤ 100 ∧ s' ++ rows'.map (fun r => pick m r.1 r.2.2) = picks m := by
          intro c hc
          refine ⟨acc ++ [c], fun _ h => h, by simp [dS], rows, rfl, hK3, by simp; omega, ?_⟩
          rw [← hacc, hc]; simp
        refine forL2_ind (S := Unit) (fun _ => [(Str.ofString "index", .int idx), (Str.ofString "mode", .int m)]) (fun _ => some (Str.ofString "perm", oa, dS acc))
          (fun ds _ => ∃ t : List (Int × Str), ds = t.map (fun r => (D.int r.1, D.str r.2)) ∧ pick m idx t = pick m idx tb) ?_ ?_ _ () ⟨tb, rfl, rfl⟩ |>.forget (by walk_at "sb")
        · rintro d ds _ ⟨t, hds, hp⟩
          cases t with
          | nil => cases hds
          | cons bc t =>
            obtain ⟨b, c⟩ := bc
            cases hds
            refine ⟨_, _, by walk_at "kp", by walk_at "kp", by walk_at "own", by walk_at "own", ?_⟩
            walk_at "if"
            · intro h0
              have h0' : idx = 0 := by simpa using h0
              walk_at "if"
              · intro h
                have h' : Builtin.bitAnd m 61440 = b := by simpa using h
                walk_at "append"
                with_reducible apply ex_cons
                refine ex_brk (go_brk (go_brk (go_brk (go_next (ex_nil ?_)))))
                obtain ⟨s', q1, q2⟩ := fin c (by rw [← hp]; unfold pick; rw [if_pos h0', if_pos h'])
                exact ⟨s', by walk_at "sb", q2⟩
              · intro h
                have h' : ¬ Builtin.bitAnd m 61440 = b := by simpa using h
                refine ex_nil (go_next (ex_nil (go_next (ex_nil ⟨(), by walk_at "sb", rfl, t, rfl, ?_⟩))))
                rw [← hp]; conv => rhs; unfold pick
                rw [if_pos h0', if_neg h']
            · intro h0
              have h0' : ¬ idx = 0 := by simpa using h0
              walk_at "if"
              · intro h
                have h' : Builtin.bitAnd m b = b := by simpa using h
                walk_at "append"
                with_reducible apply ex_cons
                refine ex_brk (go_brk (go_brk (go_brk (go_next (ex_nil ?_)))))
                obtain ⟨s', q1, q2⟩ := fin c (by rw [← hp]; unfold pick; rw [if_neg h0', if_pos h'])
                exact ⟨s', by walk_at "sb", q2⟩
              · intro h
                have h' : ¬ Builtin.bitAnd m b = b := by simpa using h
                refine ex_nil (go_next (ex_nil (go_next (ex_nil ⟨(), by walk_at "sb", rfl, t, rfl, ?_⟩))))
                rw [← hp]; conv => rhs; unfold pick
                rw [if_neg h0', if_neg h']
        · rintro _ ⟨t, hds, hp⟩
          cases t with
          | cons => cases hds
          | nil =>
            walk_at "if"
            · intro h0
              have h0' : idx = 0 := by simpa using h0
              walk_at "append"
              refine ex_nil (go_next (ex_nil (go_next (ex_nil ?_))))
              obtain ⟨s', q1, q2⟩ := fin (Str.ofString "?") (by rw [← hp]; unfold pick; rw [if_pos h0'])
              exact ⟨s', by walk_at "sb", q2⟩
            · intro h0
              have h0' : ¬ idx = 0 := by simpa using h0
              walk_at "append"
              refine ex_nil (go_next (ex_nil (go_next (ex_nil ?_))))
              obtain ⟨s', q1, q2⟩ := fin (Str.ofString "-") (by rw [← hp]; unfold pick; rw [if_neg h0'])
              exact ⟨s', by walk_at "sb", q2⟩
    · rintro acc ⟨rows, hds, hK2, hlen, hacc⟩
      cases rows with
      | cons => cases hds
      | nil =>
        simp only [List.map_nil, List.append_nil] at hacc
        subst hacc
        refine ex_nil (go_next ?_)
        refine ex_freeze ?_
        with_reducible apply ex_cons
        with_reducible apply ex_ret
        · with_reducible apply ev_meth1 (mt_str F.slot_str_join F.type_str_join)
          · walk_at "ev"
          · walk_at "ev"
          · exact cl_join (by decide) (by rw [sum_ones _ (picks_one m), picks_len]; decide)
          · exact rfl
          · exact rfl
          · exact rfl
        · exact rfl
end
section
theorem byteArr_size (ns : List Int) : (byteArr ns).size = ns.length := by simp [byteArr]
theorem ts_of {w : World} {A : Around} {env : Env} {σ : St} {o : Own} {e : Expr} {b c : Bool} (h : Ts w A env σ o e b) (hb : b = c) : Ts w A env σ o e c := hb ▸ h
local macro_rules | `(tactic| walk_at "call") => `(tactic| first
  | ((with_reducible apply ev_callB (gv_len _)); walk_at "kd"; walk_at "evs"; (refine cl_lenB ?_; omega))
  | ((with_reducible apply ev_globT (gv_bytes _)); walk_at "kd"))
theorem b64e_cal (w : World) (A : Around) (hA : Ok 3 A) (b c : Array UInt8) (hz : b.size ≤ 1000) (hc : c.size = 2) : Cal w A (.ref 128) [.byt b, .byt c] (.byt (trans (mkTab #[43, 47] c) (byteArr (enc (KBw.bInts b) 0 0)))) := by
  refine cal_val [(Str.ofString "s", .byt b), (Str.ofString "altchars", .byt c)] (names := [Str.ofString "s", Str.ofString "altchars"]) ⟨⟨_, _, _, rfl⟩, rfl, ?_, rfl, rfl, rfl, ?_, ?_, ?_, ?_, rfl, rfl, rfl⟩ (hA.le (by decide)) rfl rfl ?_ rfl ?_
  · kernel_rfl
  · decide
  · intro x hx; rcases List.mem_cons.mp hx with rfl | hx; exact rfl; rcases List.mem_cons.mp hx with rfl | hx; exact rfl; cases hx
  · decide
  · intro x hx; rcases List.mem_cons.mp hx with rfl | hx; exact rfl; rcases List.mem_cons.mp hx with rfl | hx; exact rfl; cases hx
  · intro s vs gdv hl
    match vs, hl with
    | [v0, v1], _ => exact BindsTo.of_defaults (T := 121) rfl (gdv.k 121 _ rfl) rfl rfl rfl
  · intro env hK
    with_reducible apply ex_cons
    with_reducible apply ex_assign
    · with_reducible apply ev_callFK (gv_b2a_base64 _)
      · walk_at "kd"
      · exact rfl
      · exact rfl
      · walk_at "evs"
      · walk_at "ev"
      · exact b2a_cal _ _ (by walk_at "ok") b hz
    · walk_at "kp"
    · walk_at "kd"
    · exact rfl
    · walk_at "own"
    · exact rfl
    with_reducible refine go_next ?_
    with_reducible apply ex_cons
    with_reducible apply ex_if
    · exact ts_cmp (a := .byt c) (b := .none) (ev_name (by walk_at "mem")) ev_none (c_isNotN rfl nn_byt) rfl
    · intro _
      with_reducible apply ex_cons
      with_reducible apply ex_assert
      · with_reducible apply ts_of
        · walk_at "ts"
        · rw [hc]; rfl
      with_reducible refine go_next ?_
      with_reducible apply ex_cons
      with_reducible apply ex_ret
      · with_reducible apply ev_meth1 (mt_byt slot_tr type_tr)
        · walk_at "ev"
        · with_reducible apply ev_mt (f := #[43, 47]) (g := c)
          · walk_at "ev"
          · walk_at "ev"
          · walk_at "ev"
          · exact hc.symm
          · exact rfl
          · exact rfl
          · exact rfl
        · refine cl_trans (mkTab_size _ _) ?_
          rw [byteArr_size]
          have := enc_len (KBw.bInts b) 0 0
          rw [KBw.ints_length] at this
          omega
        · exact rfl
        · exact rfl
        · exact rfl
      · exact rfl
    · intro h; cases h
end
section
local macro_rules | `(tactic| walk_at "call") => `(tactic| first
  | ((with_reducible apply ev_callB (gv_isinstance _)); walk_at "kd"; walk_at "evs"; exact cl_isStr)
  | ((with_reducible apply ev_globT (gv_str _)); walk_at "kd"))
theorem bfd_cal (w : World) (A : Around) (hA : Ok 1 A) (x : Str) (h : ∀ c ∈ x.cps, c < 128) (hz : x.length ≤ 100000) : Cal w A (.ref 63) [.str x] (.byt (ascB x)) := by
  refine cal_val [(Str.ofString "s", .str x)] (names := [Str.ofString "s"]) ⟨⟨_, _, _, rfl⟩, rfl, ?_, rfl, rfl, rfl, ?_, ?_, ?_, ?_, rfl, rfl, rfl⟩ hA rfl rfl ?_ rfl ?_
  · kernel_rfl
  · decide
  · intro x hx; rcases List.mem_cons.mp hx with rfl | hx; exact rfl; cases hx
  · decide
  · intro x hx; rcases List.mem_cons.mp hx with rfl | hx; exact rfl; cases hx
  · intro s vs gdv hl
    match vs, hl with
    | [v0], _ => exact BindsTo.of_eq rfl
  · intro env hK
    walk_at "if"
    · intro _
      with_reducible apply ex_cons
      with_reducible apply ex_try
      with_reducible apply ex_cons
      with_reducible apply ex_ret
      · with_reducible apply ev_meth1 (mt_str F.slot_str_encode F.type_str_encode)
        · walk_at "ev"
        · walk_at "ev"
        · exact cl_enc h hz
        · exact rfl
        · exact rfl
        · exact rfl
      · exact rfl
    · intro h; cases h
local macro_rules | `(tactic| walk_at "call") => `(tactic| first
  | ((with_reducible apply ev_callB (gv_len _)); walk_at "kd"; walk_at "evs"; (refine cl_lenB ?_; omega))
  | ((with_reducible apply ev_globT (gv_bytes _)); walk_at "kd"))
theorem ascB_size (x : Str) : (ascB x).size = x.length := by simp [ascB, Str.length]
theorem b64d_cal (w : World) (A : Around) (hA : Ok 3 A) (x p : Str) (hx : ∀ c ∈ x.cps, c < 128) (hz : x.length ≤ 1000) (hp : ∀ c ∈ p.cps, c < 128) (hp2 : p.length = 2) (out : List Int)
    (hd : dec (KBw.bInts (trans (mkTab (ascB p) #[43, 47]) (ascB x))) 0 0 0 [] = some out) : Cal w A (.ref 136) [.str x, .str p, .bool true] (.byt (byteArr out)) := by
  refine cal_val [(Str.ofString "s", .str x), (Str.ofString "altchars", .str p), (Str.ofString "validate", .bool true)] (names := [Str.ofString "s", Str.ofString "altchars", Str.ofString "validate"]) ⟨⟨_, _, _, rfl⟩, rfl, ?_, rfl, rfl, rfl, ?_, ?_, ?_, ?_, rfl, rfl, rfl⟩ (hA.le (by decide)) rfl rfl ?_ rfl ?_
  · kernel_rfl
  · decide
  · intro x hx; rcases List.mem_cons.mp hx with rfl | hx; exact rfl; rcases List.mem_cons.mp hx with rfl | hx; exact rfl; rcases List.mem_cons.mp hx with rfl | hx; exact rfl; cases hx
  · decide
  · intro x hx; rcases List.mem_cons.mp hx with rfl | hx; exact rfl; rcases List.mem_cons.mp hx with rfl | hx; exact rfl; rcases List.mem_cons.mp hx with rfl | hx; exact rfl; cases hx
  · intro s vs gdv hl
    match vs, hl with
    | [v0, v1, v2], _ => exact BindsTo.of_defaults (T := 129) rfl (gdv.k 129 _ rfl) rfl rfl rfl
  · intro env hK
    have ha : (ascB p).size = 2 := by rw [ascB_size, hp2]
    with_reducible apply ex_cons
    with_reducible apply ex_assign
    · with_reducible apply ev_callF (gv_bytes_from_decode_data _)
      · walk_at "kd"
      · exact rfl
      · exact rfl
      · walk_at "evs"
      · exact bfd_cal _ _ (by walk_at "ok") x hx (by omega)
    · walk_at "kp"
    · walk_at "kd"
    · exact rfl
    · walk_at "own"
    · exact rfl
    with_reducible refine go_next ?_
    with_reducible apply ex_cons
    with_reducible apply ex_if
    · exact ts_cmp (a := .str p) (b := .none) (ev_name (by walk_at "mem")) ev_none (c_isNotN rfl nn_str) rfl
    · intro _
      with_reducible apply ex_cons
      with_reducible apply ex_assign
      · with_reducible apply ev_callF (gv_bytes_from_decode_data _)
        · walk_at "kd"
        · exact rfl
        · exact rfl
        · walk_at "evs"
        · exact bfd_cal _ _ (by walk_at "ok") p hp (by omega)
      · walk_at "kp"
      · walk_at "kd"
      · exact rfl
      · walk_at "own"
      · exact rfl
      with_reducible refine go_next ?_
      with_reducible apply ex_cons
      with_reducible apply ex_assert
      · with_reducible apply ts_of
        · walk_at "ts"
        · rw [ha]; rfl
      with_reducible refine go_next ?_
      with_reducible apply ex_cons
      with_reducible apply ex_assign
      · with_reducible apply ev_meth1 (mt_byt slot_tr type_tr)
        · walk_at "ev"
        · with_reducible apply ev_mt (f := ascB p) (g := #[43, 47])
          · walk_at "ev"
          · walk_at "ev"
          · walk_at "ev"
          · exact ha
          · exact rfl
          · exact rfl
          · exact rfl
        · refine cl_trans (mkTab_size _ _) ?_
          rw [ascB_size]; omega
        · exact rfl
        · exact rfl
        · exact rfl
      · walk_at "kp"
      · walk_at "kd"
      · exact rfl
      · walk_at "own"
      · exact rfl
      with_reducible refine go_next ?_
      refine ex_nil (go_next ?_)
      with_reducible apply ex_cons
      with_reducible apply ex_ret
      · with_reducible apply ev_callFK (gv_a2b_base64 _)
        · walk_at "kd"
        · exact rfl
        · exact rfl
        · walk_at "evs"
        · walk_at "ev"
        · refine a2b_cal _ _ (by walk_at "ok") _ ?_ _ hd
          simp only [trans, Array.size_map, ascB_size]; omega
      · exact rfl
    · intro h; cases h
end
section
theorem ev_methK2 {w : World} {A : Around} {env : Env} {σ : St} {o : Own} {ob e₁ e₂ : Expr} {name : Str} {apos pos : Pos} {T id : String} {a : Addr} {ob' : Obj} {b c r : D} (pa : PlainAttrs T) (slot : Slot T name id) (md : typeOf (.builtin id) = pure (.type "method_descriptor"))
    (ho : Ev w A env σ o ob (.ref a)) (hk : (KK w).lookup a = some ob') (hc : ob'.cls = .type T) (hd : ob'.dict = none) (h₁ : Ev w A env σ o e₁ b) (h₂ : Ev w A env σ o e₂ c) (hcal : Cal w A (.builtin id) [.ref a, b, c] r)
    (hs : starEach [e₁, e₂] env = [(false, eval e₁ env), (false, eval e₂ env)]) (hbase : attributeBase ob name env (eval ob env) = eval ob env) (hline : (apos.endLine == pos.line) = true) : Ev w A env σ o (.Call (.Attribute ob name apos) [e₁, e₂] [] pos) r := by
  refine ⟨fun g s f => Call_method2 hbase hs hline (wpF (ho.out g s f) fun ov s₁ q₁ => ?_)⟩
  obtain ⟨k₁, rfl⟩ := q₁
  have inK := (f.gh.mono (kHeap k₁)).k _ _ hk
  refine ⟨T, id, pa, slot, md, ⟨ob', inK, hc⟩, ?_, ?_⟩
  · rintro _ ⟨⟩; exact ⟨ob', inK, hd⟩
  refine Calls.callWith_builtin rfl (Calls.evalArgs_plain (Calls.spliced_cons (wpF (h₁.out g s₁ (f.mono (kHeap k₁))) fun v s₂ q₂ => Calls.spliced_cons (wpF (h₂.out g s₂ (f.mono (kHeap (kTrans k₁ q₂.1)))) fun u s₃ q₃ => Calls.spliced_nil ?_))))
  have k := kTrans k₁ (kTrans q₂.1 q₃.1)
  exact wpF (hcal.out (bad env o) s₃ [.ref a, v, u] (f.gh.mono (kHeap k)) (fun a b => (f.mono (kHeap k)).badIn b) ⟨rfl, q₂.2.mono (kHeap q₃.1), q₃.2, trivial⟩) fun v s₃ q₃ => ⟨kTrans k q₃.1, q₃.2⟩
theorem pat1 (w : World) : ∀ h, Gd w h → Pat h 43 code1 ∧ ∃ ob, h.get? 43 = some ob ∧ ob.cls = .type "re.Pattern" := fun h gd =>
  ⟨⟨_, _, 42, _, _, _, gd.k 43 _ rfl, rfl, rfl, gd.k 42 _ rfl, rfl, by kernel_rfl, rfl, rfl⟩, _, gd.k 43 _ rfl, rfl⟩
theorem pat2 (w : World) : ∀ h, Gd w h → Pat h 48 code2 ∧ ∃ ob, h.get? 48 = some ob ∧ ob.cls = .type "re.Pattern" := fun h gd =>
  ⟨⟨_, _, 47, _, _, _, gd.k 48 _ rfl, rfl, rfl, gd.k 47 _ rfl, rfl, by kernel_rfl, rfl, rfl⟩, _, gd.k 48 _ rfl, rfl⟩
noncomputable def crlf : Str := ⟨#[13, 10]⟩
noncomputable def ends (T : Str) : Str := ⟨(subOut (isCL T.cps) crlf T 0).toArray⟩
noncomputable def dots (U : Str) : Str := ⟨(subOut (isDot U.cps) (Str.ofString "..") U 0).toArray⟩
theorem subOut_len (p : Nat → Bool) (rp T : Str) (hr : rp.length = 2) : (subOut p rp T 0).length ≤ 2 * T.cps.size := by
  unfold subOut
  have : ∀ l : List Nat, (l.flatMap fun i => if p i = true then rp.cps.toList else [T.cps.getD i 0]).length ≤ 2 * l.length := by
    intro l
    induction l with
    | nil => simp
    | cons x l ih =>
      rw [List.flatMap_cons, List.length_append, List.length_cons]
      have : (if p x = true then rp.cps.toList else [T.cps.getD x 0]).length ≤ 2 := by
        split
        · have : rp.cps.toList.length = 2 := hr
          omega
        · simp
      omega
  have h := this (List.range' 0 (T.cps.size - 0))
  rw [List.length_range'] at h
  exact h
theorem quote_cal (w : World) (A : Around) (hA : Ok 1 A) (T : Str) (hz : T.cps.size ≤ 4000) (hn : NoPair T.cps) : Cal w A (.ref 55) [.str T] (.str (dots (ends T))) := by
  refine cal_val [(Str.ofString "data", .str T)] (names := [Str.ofString "data"]) ⟨⟨_, _, _, rfl⟩, rfl, ?_, rfl, rfl, rfl, ?_, ?_, ?_, ?_, rfl, rfl, rfl⟩ hA rfl rfl ?_ rfl ?_
  · kernel_rfl
  · decide
  · intro x hx; rcases List.mem_cons.mp hx with rfl | hx; exact rfl; cases hx
  · decide
  · intro x hx; rcases List.mem_cons.mp hx with rfl | hx; exact rfl; cases hx
  · intro s vs gdv hl
    match vs, hl with
    | [v0], _ => exact BindsTo.of_eq rfl
  · intro env hK
    have hU : (ends T).cps.size ≤ 8000 := by
      have := subOut_len (isCL T.cps) crlf T rfl
      show (subOut (isCL T.cps) crlf T 0).toArray.size ≤ _
      rw [List.size_toArray]; omega
    with_reducible apply ex_cons
    with_reducible apply ex_ret
    · refine ev_methK2 (a := 43) pa_re slot_sub type_sub (ev_globR (gv_twin_re_1 _) (by walk_at "kd")) rfl rfl rfl (b := .str (Str.ofString "..")) (c := .str (ends T)) (r := .str (dots (ends T))) ?_ ?_ ?_ rfl rfl rfl
      · walk_at "ev"
      · refine ev_methK2 (a := 48) pa_re slot_sub type_sub (ev_globR (gv_twin_re_2 _) (by walk_at "kd")) rfl rfl rfl (b := .str crlf) (c := .str T) (r := .str (ends T)) ?_ ?_ ?_ rfl rfl rfl
        · exact ev_globS (gv_CRLF _) (by walk_at "kd")
        · walk_at "ev"
        · refine cl_sub (pat2 w) (fun d hd => ?_) (by decide) (by decide +kernel) (by omega)
          obtain ⟨n, m', h1, h2⟩ := search2 (T := T.cps) hd hn
          exact ⟨n, m', by omega, h2⟩
      · refine cl_sub (pat1 w) (fun d hd => ?_) (by decide) (by decide +kernel) (by omega)
        obtain ⟨n, m', h1, h2⟩ := search1 (T := (ends T).cps) hd
        exact ⟨n, m', by omega, h2⟩
    · exact rfl
end
section
noncomputable def prs : List Str := [Str.ofString ".\n", Str.ofString "\n.", Str.ofString ".\r", Str.ofString "\r."]
noncomputable def num (m : Int) : Int := Builtin.bitAnd m 4095 * 16 + (Builtin.bitAnd m 61440).fdiv 4096
noncomputable def octs (ms : List Int) : List Int := ms.flatMap fun m => [(num m).fdiv 256, (num m).fmod 256]
noncomputable def prB (pr : Str) : Array UInt8 := byteArr (pr.cps.toList.map fun c => ((#[c].getD 0 0 : Nat) : Int))
noncomputable def wrt (ms : List Int) (pr : Str) : Array UInt8 := trans (mkTab #[43, 47] (prB pr)) (byteArr (enc (KBw.bInts (byteArr (octs ms))) 0 0))
noncomputable def txt (ms : List Int) (pr : Str) : Str := Txt.join (Str.ofString "") ((KBw.bInts (wrt ms pr)).map fun c => ⟨#[c.toNat]⟩)
noncomputable def mailT (ms : List Int) (pr : Str) : Str := dots (ends (txt ms pr))
noncomputable def listB (ms : List Int) : List Int := (ms.map fileOf).flatMap bitsOf
noncomputable def undot (l : Str) : Str := if Txt.slice l none (some 1) == Str.ofString "." then Txt.slice l (some 1) none else l
noncomputable def heardOf (M : Str) : List Str := (Txt.split M (Str.ofString "\r\n")).map undot
noncomputable def joined (ms : List Int) (pr : Str) : Str := Txt.join (Txt.stripChars pr (Str.ofString ".")) (heardOf (mailT ms pr))
noncomputable def byteAt (oc : List Int) (k : Int) : Int := (((byteArr oc).toList.getD k.toNat 0).toNat : Int)
noncomputable def toldOf (oc : List Int) : List Str := (rng 0 2 ((oc.length + 1) / 2)).map fun k => rowOf (byteAt oc k * 256 + byteAt oc (k + 1))
/-- what the walk of the law leans on -/
structure LawOk (ms : List Int) (pr : Str) : Prop where
  len : ms.length ≤ 10
  pr2 : pr.length = 2
  prA : ∀ c ∈ pr.cps, c < 128
  oct : ∀ n ∈ octs ms, 0 ≤ n ∧ n < 256
  nop : NoPair (txt ms pr).cps
  bit : ∀ b ∈ listB ms, b = 0 ∨ b = 1
  mail : mailT ms pr = mailOf (listB ms) pr
  spl : (Builtin.Str.partsBetween (mailT ms pr) (Builtin.Str.occurrences (mailT ms pr) (Str.ofString "\r\n") 0 (mailT ms pr).length ((mailT ms pr).length + 1)) 2).length ≤ 100000
  spc : (Txt.split (mailT ms pr) (Str.ofString "\r\n")).length ≤ 100000
  hrd : ∀ l ∈ Txt.split (mailT ms pr) (Str.ofString "\r\n"), l.length ≤ 100000
  sum : ((heardOf (mailT ms pr)).map (·.length)).sum + (heardOf (mailT ms pr)).length ≤ 1048576
  asc : ∀ c ∈ (joined ms pr).cps, c < 128
  jlen : (joined ms pr).length ≤ 1000
  dec : dec (KBw.bInts (trans (mkTab (ascB pr) #[43, 47]) (ascB (joined ms pr)))) 0 0 0 [] = some (octs ms)
  mlen : (mailOf (listB ms) pr).length ≤ 1000
  strl : (Txt.stripChars pr (Str.ofString ".")).length ≤ 16
  told : toldOf (octs ms) = ms.map fileOf
theorem octs_len (ms : List Int) : (octs ms).length = 2 * ms.length := by
  induction ms with
  | nil => rfl
  | cons m ms ih =>
    show ([_, _] ++ octs ms).length = _
    rw [List.length_append, ih]; simp; omega
theorem bitsOf_len (r : Str) : (bitsOf r).length = 16 := rfl
theorem listB_len (ms : List Int) : (listB ms).length = 16 * ms.length := by
  induction ms with
  | nil => rfl
  | cons m ms ih =>
    show (bitsOf (fileOf m) ++ listB ms).length = _
    rw [List.length_append, ih, bitsOf_len]; simp; omega
theorem sumLens : ∀ (l : List Int), ((l.map fun c => (⟨#[c.toNat]⟩ : Str)).map (·.length)).sum = l.length
  | [] => rfl
  | c :: l => by rw [List.map_cons, List.map_cons, List.sum_cons, sumLens l, List.length_cons]; show 1 + _ = _; omega
theorem wrt_size (ms : List Int) (pr : Str) : (wrt ms pr).size ≤ 4 * ms.length + 3 := by
  unfold wrt trans
  rw [Array.size_map, byteArr_size]
  have := enc_len (KBw.bInts (byteArr (octs ms))) 0 0
  rw [KBw.ints_length, byteArr_size, octs_len] at this
  omega
theorem catN_len : ∀ (l : List Str), (catN l).length = (l.map (·.length)).sum
  | [] => rfl
  | x :: l => by
    show (x.cps.toList ++ catN l).length = _
    rw [List.length_append, catN_len l, List.map_cons, List.sum_cons]; simp [Str.length]
theorem fileOf_len (m : Int) : (fileOf m).length = 10 := by
  have h : (fileOf m).length = (fileOf m).cps.toList.length := by simp [Str.length]
  rw [h]
  unfold fileOf
  rw [join_cat, catN_len, sum_ones _ (picks_one m), picks_len]
theorem relabel_free {env : Env} {scope : Scope} {x : Str} (hf : env.scope.kind = .function) (hk : env.kindOf x = some .cell) (h : scope.names.lookup x = some .free) : (relabel scope env).names.lookup x = some .cell := by
  show (scope.names.map fun (n, k) => if (k == NameKind.free && env.scope.kind == .function && env.kindOf n == some .cell) then (n, NameKind.cell) else (n, k)).lookup x = some .cell
  generalize scope.names = l at h
  induction l with
  | nil => cases h
  | cons p l ih =>
    obtain ⟨n, k⟩ := p
    rw [List.lookup_cons] at h
    rw [List.map_cons]
    cases hb : (x == n) with
    | true =>
      rw [hb] at h
      have hx : x = n := by simpa using hb
      subst hx
      have hkf : k = .free := by simpa using h
      subst hkf
      simp [hf, hk]
    | false =>
      rw [hb] at h
      have := ih h
      dsimp only
      split
      · rw [List.lookup_cons, hb]; exact this
      · rw [List.lookup_cons, hb]; exact this
end
section
noncomputable def fI (f : Int → D) : D → D
  | .int x => f x
  | _ => .none
noncomputable def fS (f : Str → D) : D → D
  | .str x => f x
  | _ => .none
theorem map_fI (f : Int → D) (l : List Int) : (dI l).map (fI f) = l.map f := by simp [dI, fI]
theorem map_fS (f : Str → D) (l : List Str) : (dS l).map (fS f) = l.map f := by simp [dS, fS]
theorem ev_as {w : World} {A : Around} {env : Env} {σ : St} {o : Own} {e : Expr} {d d' : D} (h : Ev w A env σ o e d) (q : d = d') : Ev w A env σ o e d' := q ▸ h
theorem item_len1 (x : Str) (i : Int) : (Txt.item x i).length = 1 := rfl
theorem byteAt_b (oc : List Int) (k : Int) : 0 ≤ byteAt oc k ∧ byteAt oc k < 256 := by
  unfold byteAt
  generalize ((byteArr oc).toList.getD k.toNat 0) = b
  have : b.toNat < 256 := b.toNat_lt
  omega
theorem range2 (n : Nat) : Builtin.Range.rangeSize 0 (n : Int) 2 = (((n + 1) / 2 : Nat) : Int) := by
  have e : (0 : Int) ≤ n := Int.natCast_nonneg n
  unfold Builtin.Range.rangeSize
  simp
  try omega
theorem rng_small {n : Nat} (h : n ≤ 1000) : Builtin.Range.small 0 (n : Int) 2 = true := by
  simp [Builtin.Range.small, range2, Builtin.Range.rangeFitsLong]
  omega
theorem clos_read {env : Env} {c : Addr} (hce : env.cells = [(Str.ofString "read", c)]) : closureFor { kind := .function, names := [(Str.ofString ".0", .local), (Str.ofString "k", .local), (Str.ofString "_law_row", .globalImplicit), (Str.ofString "read", .free)], isGenerator := false, isCoroutine := false, more := [] } env = pure [(Str.ofString "read", c)] := by
  unfold closureFor
  simp only [List.forIn_cons, List.forIn_nil]
  unfold cellOf
  rw [hce]
  simp
local macro_rules | `(tactic| walk_at "cm") => `(tactic| (refine ⟨rfl, by decide, rfl, by decide, rfl, rfl⟩))
local macro_rules | `(tactic| walk_at "call") => `(tactic| first
  | ((with_reducible apply ev_callF (gv_S_IMODE _)); walk_at "kd"; exact rfl; exact rfl; walk_at "evs"; exact imode_cal _ _ (by walk_at "ok") _)
  | ((with_reducible apply ev_callF (gv_S_IFMT _)); walk_at "kd"; exact rfl; exact rfl; walk_at "evs"; exact ifmt_cal _ _ (by walk_at "ok") _)
  | ((with_reducible apply ev_callF (gv_law_bits _)); walk_at "kd"; exact rfl; exact rfl; walk_at "evs"; exact bits_cal _ _ (by walk_at "ok") _ (by assumption)))
theorem law_cal (w : World) (A : Around) (hA : Ok 4 A) (ns : List Int) (hl : ns.length ≤ 63) (hL : ∀ pr ∈ prs, LawOk (36862 :: (ns.take 9).map modeOf) pr) : Cal w A (.ref 230) [.list (dI ns)] (.bool true) := by
  refine cal_valC (x := Str.ofString "script") (y := Str.ofString "read") ⟨⟨_, _, _, rfl⟩, rfl, ?_, rfl, rfl, rfl, rfl, rfl, ?_, ?_, rfl, rfl, rfl⟩ (hA.le (by decide)) rfl ?_
  · kernel_rfl
  · intro n; rfl
  · intro v; rfl
  intro env c hK hkf hce
  dsimp only at hK
  generalize hms : 36862 :: (ns.take 9).map modeOf = ms at hL
  have hA3 : Ok 3 (A.deeper env) := hA.deeper env
  have hmod := modes_cal w (A.deeper env) (hA3.le (by decide)) ns hl
  rw [hms] at hmod
  -- modes
  with_reducible apply ex_cons
  with_reducible apply ex_assign
  · with_reducible apply ev_callF (gv_law_modes _)
    · walk_at "kd"
    · exact rfl
    · exact rfl
    · walk_at "evs"
    · exact hmod
  · walk_at "kp"
  · walk_at "kd"
  · exact rfl
  · walk_at "own"
  · exact rfl
  with_reducible refine go_next ?_
  -- pair
  have hS : ∃ S : Int, S = preSum (fun i => ((ns.take 9).map fun x => x.fmod 1000000000).getD i 0) ((ns.take 9).map fun x => x.fmod 1000000000).length := ⟨_, rfl⟩
  obtain ⟨S, hS⟩ := hS
  have h4 := fmod_b S (b := 4) (by decide)
  generalize hpr : prs.getD (S.fmod 4).toNat (Str.ofString "") = pr
  have hpm : pr ∈ prs := by
    rw [← hpr]
    generalize S.fmod 4 = z at h4
    have : z = 0 ∨ z = 1 ∨ z = 2 ∨ z = 3 := by omega
    rcases this with rfl | rfl | rfl | rfl <;> decide
  replace hL := hL pr hpm
  with_reducible apply ex_cons
  with_reducible apply ex_assign (d := .str pr)
  · with_reducible apply ev_item (i := .int (S.fmod 4)) (a := .list (dS prs))
    · refine ev_as (d := .list [.str (Str.ofString ".\n"), .str (Str.ofString "\n."), .str (Str.ofString ".\r"), .str (Str.ofString "\r.")]) ?_ rfl
      walk_at "ev"
    · refine ev_bin (a := .int S) (b := .int 4) ?_ ?_ ?_ rfl rfl
      · with_reducible apply ev_callB (d := .list (dI ((ns.take 9).map fun x => x.fmod 1000000000))) (gv_sum _)
        · walk_at "kd"
        · with_reducible apply evs_cons
          · refine ev_as (ev_comp (x := Str.ofString "x") (ds := dI (ns.take 9)) (fn := fI fun x => .int (x.fmod 1000000000)) (cl := []) ?_ ?_ sees_nil ?_ ?_ ?_ ?_) ?_
            · refine (?_ : Itr _ _ _ _ _ _ _)
              have e : (List.take (Int.toNat 9) (dI ns)) = dI (ns.take 9) := by simp [dI, List.map_take]
              rw [← e]
              refine itr_list (ev_slTo (ds := dI ns) (k := 9) ?_ ?_ (by decide) ?_) hA3.hh
              · walk_at "ev"
              · walk_at "ev"
              · simp; omega
            · walk_at "cm"
            · simp; omega
            · intro d hd
              obtain ⟨x, _, rfl⟩ := List.mem_map.mp hd
              rfl
            · intro d hd C
              obtain ⟨x, _, rfl⟩ := List.mem_map.mp hd
              show Ev _ _ _ _ _ _ (.int (x.fmod 1000000000))
              refine ev_as (d := .int (x.fmod (10 ^ (9 : Int).toNat))) ?_ rfl
              walk_at "ev"
            · intro _; rfl
            · rw [map_fI]; exact congrArg D.list (by simp only [dI, List.map_map]; rfl)
          · walk_at "evs"
          · exact rfl
        · rw [hS]; exact cl_sum hA3.hh
      · walk_at "ev"
      · walk_at "bin"
    · rw [← hpr]
      exact i_listS h4.1 (by show S.fmod 4 < 4; exact h4.2) (by decide)
    · exact rfl
    · intros; exact rfl
  · walk_at "kp"
  · walk_at "kd"
  · exact rfl
  · walk_at "own"
  · exact rfl
  with_reducible refine go_next ?_
  -- listing
  have hlm := hL.len
  with_reducible apply ex_cons
  refine ex_comp (x := Str.ofString "mode") (ds := dI ms) (fn := fI fun m => .str (fileOf m)) (cl := []) (σ' := [(Str.ofString "pair", .str pr), (Str.ofString "modes", .list (dI ms)), (Str.ofString "script", .list (dI ns))]) ?_ ?_ sees_nil ?_ ?_ ?_ ?_ ?_ ?_ ?_ ?_ ?_ ?_
  · refine itr_list ?_ hA3.hh
    walk_at "ev"
  · walk_at "cm"
  · simp; omega
  · intro d hd
    obtain ⟨x, _, rfl⟩ := List.mem_map.mp hd
    rfl
  · intro d hd C
    obtain ⟨x, _, rfl⟩ := List.mem_map.mp hd
    show Ev _ _ _ _ _ _ (.str (fileOf x))
    refine ev_callF (gv_filemode _) rfl rfl rfl ?_ (file_cal _ _ (hA3.le (by decide)) _)
    walk_at "evs"
  · intro _; rfl
  · intro hf
    exact swaps hf (by walk_at "kd") rfl rfl
  · walk_at "kd"
  · exact rfl
  · walk_at "kp"
  · walk_at "own"
  rw [show (dI ms).map (fI fun m => .str (fileOf m)) = dS (ms.map fileOf) from by rw [map_fI]; simp [dS]]
  with_reducible refine go_next ?_
  -- octets
  walk_at "new"
  rename_i oa
  with_reducible apply ex_cons
  with_reducible apply ex_for
  · refine itr_list (ds := dI ms) ?_ hA3.hh
    walk_at "ev"
  · walk_at "kd"
  · rfl
  · intro _; rfl
  refine forL_ind (S := List Int) (fun _ => [(Str.ofString "listing", .list (dS (ms.map fileOf))), (Str.ofString "pair", .str pr)]) (fun acc => some (Str.ofString "octets", oa, dI acc))
    (fun ds acc => ∃ l, ds = dI l ∧ acc.length + 2 * l.length ≤ 100 ∧ acc ++ octs l = octs ms) ?_ ?_ _ [] ⟨ms, rfl, by simp; omega, rfl⟩ |>.forget ?_
  · rintro d ds acc ⟨l, hds, hlen, hacc⟩
    cases l with
    | nil => cases hds
    | cons x l =>
      cases hds
      refine ⟨_, by walk_at "kp", by walk_at "own", ?_⟩
      simp only [List.length_cons] at hlen
      walk_at "assign"
      rw [show Builtin.bitAnd x 4095 * 16 + (Builtin.bitAnd x 61440).fdiv 4096 = num x from rfl]
      with_reducible apply ex_cons
      with_reducible apply ex_extend
      · with_reducible apply ev_list
        · walk_at "evs"
        · exact rfl
        · exact Nat.le_of_ble_eq_true rfl
      · simp; omega
      · exact rfl
      · exact rfl
      with_reducible refine go_next ?_
      refine ex_nil ⟨acc ++ [(num x).fdiv 256, (num x).fmod 256], by walk_at "sb", ?_, l, rfl, by simp; omega, by rw [← hacc]; simp [octs]⟩
      simp [dI]
  · rintro acc ⟨l, hds, hlen, hacc⟩
    cases l with
    | cons => cases hds
    | nil =>
      refine ex_nil (go_next ?_)
      have hacc' : acc = octs ms := by rw [← hacc]; simp [octs]
      subst hacc'
      apply ex_freeze
      -- writing
      have hoc := octs_len ms
      have hpl := hL.pr2
      have hpl' : pr.cps.size = 2 := hpl
      with_reducible apply ex_cons
      with_reducible apply ex_assign (d := .byt (wrt ms pr))
      · refine ev_callF (d := .byt (byteArr (octs ms))) (ds := [.byt (prB pr)]) (gv_b64encode _) (by walk_at "kd") rfl rfl ?_ (b64e_cal _ _ hA3 _ _ (by rw [byteArr_size]; omega) (by rw [prB, byteArr_size]; simp [hpl']))
        with_reducible apply evs_cons
        · refine ev_callT (d := .list (dI (octs ms))) (ds := []) (gv_bytes _) (by walk_at "kd") ?_ (cl_bytes hA3.hh hL.oct (by omega))
          walk_at "evs"
        · with_reducible apply evs_cons
          · refine ev_callT (d := .list (dI (pr.cps.toList.map fun c => ((#[c].getD 0 0 : Nat) : Int)))) (ds := []) (gv_bytes _) (by walk_at "kd") ?_ (cl_bytes hA3.hh ?_ (by simp [hpl']))
            · with_reducible apply evs_cons
              · refine ev_as (ev_comp (x := Str.ofString "sign") (ds := dS (pr.cps.toList.map fun c => ⟨#[c]⟩)) (fn := fS fun x => .int (x.cps.getD 0 0 : Nat)) (cl := []) ?_ ?_ sees_nil ?_ ?_ ?_ ?_) ?_
                · refine itr_str ?_ hA3.hh
                  walk_at "ev"
                · walk_at "cm"
                · simp [hpl']
                · intro d hd
                  obtain ⟨x, _, rfl⟩ := List.mem_map.mp hd
                  rfl
                · intro d hd C
                  obtain ⟨x, hx, rfl⟩ := List.mem_map.mp hd
                  obtain ⟨y, _, rfl⟩ := List.mem_map.mp hx
                  show Ev _ _ _ _ _ _ (.int ((#[y].getD 0 0 : Nat)))
                  refine ev_callB (d := .str ⟨#[y]⟩) (ds := []) (gv_ord _) rfl ?_ (cl_ord rfl)
                  walk_at "evs"
                · intro _; rfl
                · rw [map_fS]; exact congrArg D.list (by simp only [dI, List.map_map]; rfl)
              · walk_at "evs"
              · exact rfl
            · intro n hn
              obtain ⟨y, hy, rfl⟩ := List.mem_map.mp hn
              have := hL.prA y (by simpa using hy)
              show 0 ≤ ((y : Nat) : Int) ∧ ((y : Nat) : Int) < 256
              omega
          · walk_at "evs"
          · exact rfl
        · exact rfl
      · walk_at "kp"
      · walk_at "kd"
      · exact rfl
      · walk_at "own"
      · exact rfl
      with_reducible refine go_next ?_
      -- mail
      have hws := wrt_size ms pr
      have hwi : (KBw.bInts (wrt ms pr)).length = (wrt ms pr).size := by simp [KBw.ints_length]
      with_reducible apply ex_cons
      with_reducible apply ex_assign (d := .str (mailT ms pr))
      · refine ev_callF (d := .str (txt ms pr)) (ds := []) (gv_quotedata _) (by walk_at "kd") rfl rfl ?_ (quote_cal _ _ (hA3.le (by decide)) _ ?_ hL.nop)
        · with_reducible apply evs_cons
          · refine ev_meth1 (a := .str (Str.ofString "")) (b := .list (dS ((KBw.bInts (wrt ms pr)).map fun c => ⟨#[c.toNat]⟩))) (mt_str F.slot_str_join F.type_str_join) ?_ ?_ (cl_join (by decide) ?_) rfl rfl rfl
            · walk_at "ev"
            · refine ev_as (ev_comp (x := Str.ofString "octet") (ds := dI (KBw.bInts (wrt ms pr))) (fn := fI fun x => .str ⟨#[x.toNat]⟩) (cl := []) ?_ ?_ sees_nil ?_ ?_ ?_ ?_) ?_
              · refine itr_byt ?_ hA3.hh
                walk_at "ev"
              · walk_at "cm"
              · rw [List.length_map, hwi]; omega
              · intro d hd
                obtain ⟨x, _, rfl⟩ := List.mem_map.mp hd
                rfl
              · intro d hd C
                obtain ⟨x, hx, rfl⟩ := List.mem_map.mp hd
                have hb := KBw.ints_in hx
                show Ev _ _ _ _ _ _ (.str ⟨#[x.toNat]⟩)
                refine ev_callB (d := .int x) (ds := []) (gv_chr _) rfl ?_ (cl_chr hb.1 (by omega))
                walk_at "evs"
              · intro _; rfl
              · rw [map_fI]; exact congrArg D.list (by simp only [dS, List.map_map]; rfl)
            · rw [sumLens, List.length_map, hwi]; omega
          · walk_at "evs"
          · exact rfl
        · have e : (txt ms pr).cps.size = (txt ms pr).cps.toList.length := by simp
          rw [e, txt, join_cat, catN_len, sumLens, hwi]; omega
      · walk_at "kp"
      · walk_at "kd"
      · exact rfl
      · walk_at "own"
      · exact rfl
      with_reducible refine go_next ?_
      -- bits
      walk_at "new"
      rename_i ob
      with_reducible apply ex_cons
      with_reducible apply ex_for
      · refine itr_list (ds := dS (ms.map fileOf)) ?_ hA3.hh
        walk_at "ev"
      · walk_at "kd"
      · rfl
      · intro _; rfl
      refine forL_ind (S := List Int) (fun _ => [(Str.ofString "mail", .str (mailT ms pr)), (Str.ofString "listing", .list (dS (ms.map fileOf))), (Str.ofString "pair", .str pr)]) (fun acc => some (Str.ofString "bits", ob, dI acc))
        (fun ds acc => ∃ l : List Str, ds = dS l ∧ (∀ r ∈ l, r.length = 10) ∧ acc.length + 16 * l.length ≤ 1000 ∧ acc ++ l.flatMap bitsOf = listB ms) ?_ ?_ _ [] ⟨ms.map fileOf, rfl, ?_, by simp; omega, rfl⟩ |>.forget ?_
      · rintro d ds acc ⟨l, hds, hin, hlen, hacc⟩
        cases l with
        | nil => cases hds
        | cons x l =>
          cases hds
          have hx := hin x (.head _)
          refine ⟨_, by walk_at "kp", by walk_at "own", ?_⟩
          simp only [List.length_cons] at hlen
          with_reducible apply ex_cons
          with_reducible apply ex_extend
          · walk_at "ev"
          · simp only [List.length_map, bitsOf_len]; omega
          · exact rfl
          · exact rfl
          with_reducible refine go_next ?_
          refine ex_nil ⟨acc ++ bitsOf x, by walk_at "sb", ?_, l, rfl, fun y hy => hin y (.tail _ hy), by rw [List.length_append, bitsOf_len]; omega, by rw [← hacc]; simp⟩
          simp [dI]
      · rintro acc ⟨l, hds, hin, hlen, hacc⟩
        cases l with
        | cons => cases hds
        | nil =>
          refine ex_nil (go_next ?_)
          have hacc' : acc = listB ms := by rw [← hacc]; simp
          subst hacc'
          apply ex_freeze
          have hbl := listB_len ms
          -- the mail
          with_reducible apply ex_cons
          with_reducible apply ex_if (t := false)
          · refine ts_of (b := (mailT ms pr != mailOf (listB ms) pr)) ?_ (by rw [← hL.mail]; simp)
            with_reducible apply ts_cmp
            · walk_at "ev"
            · refine ev_callF (d := .list (dI (listB ms))) (ds := [.str pr]) (gv_law_mail _) (by walk_at "kd") rfl rfl ?_ (mail_cal _ _ (hA3.le (by decide)) _ _ hL.bit (by omega) hL.pr2)
              walk_at "evs"
            · exact c_nes
            · exact rfl
          · intro h; cases h
          intro _
          refine ex_nil (go_next ?_)
          -- heard
          generalize hM : mailT ms pr = M
          have hMl : M.length ≤ 1000 := by
            rw [← hM, hL.mail]
            exact hL.mlen
          have hsp := hL.spl
          have hhr := hL.hrd
          have hsum := hL.sum
          rw [hM] at hsp hhr hsum
          have hpc : (Txt.split M (Str.ofString "\r\n")).length ≤ 100000 := by
            rw [← hM]; exact hL.spc
          with_reducible apply ex_cons
          refine ex_comp (x := Str.ofString "line") (ds := dS (Txt.split M (Str.ofString "\r\n"))) (fn := fS fun l => .str (undot l)) (cl := []) (σ' := [(Str.ofString "bits", .list (dI (listB ms))), (Str.ofString "mail", .str M), (Str.ofString "listing", .list (dS (ms.map fileOf))), (Str.ofString "pair", .str pr)]) ?_ ?_ sees_nil ?_ ?_ ?_ ?_ ?_ ?_ ?_ ?_ ?_ ?_
          · refine itr_split (x := M) (y := Str.ofString "\r\n") ?_ ?_ hA3.hh rfl (by rw [sizeLine_eq]; omega) (by rw [sizeLine_eq]; exact Nat.le_trans hsp (by decide)) rfl rfl rfl
            · walk_at "ev"
            · walk_at "ev"
          · walk_at "cm"
          · rw [List.length_map]; exact hpc
          · intro d hd
            obtain ⟨x, _, rfl⟩ := List.mem_map.mp hd
            rfl
          · intro d hd C
            obtain ⟨x, hx, rfl⟩ := List.mem_map.mp hd
            have hxl := hhr x hx
            show Ev _ _ _ _ _ _ (.str (undot x))
            refine ev_if (bt := (Txt.slice x none (some 1) == Str.ofString ".")) ?_ ?_ ?_
            · with_reducible apply ts_cmp
              · refine ev_sslTo (x := x) (k := 1) ?_ ?_ (by omega)
                · walk_at "ev"
                · walk_at "ev"
              · walk_at "ev"
              · exact c_eqs
              · exact rfl
            · intro hb
              unfold undot
              rw [if_pos hb]
              refine ev_sslFrom (x := x) (k := 1) ?_ ?_ (by omega)
              · walk_at "ev"
              · walk_at "ev"
            · intro hb
              unfold undot
              rw [if_neg (by rw [hb]; decide)]
              walk_at "ev"
          · intro _; rfl
          · intro hf
            exact swaps hf (by walk_at "kd") rfl rfl
          · walk_at "kd"
          · exact rfl
          · walk_at "kp"
          · walk_at "own"
          rw [show (dS (Txt.split M (Str.ofString "\r\n"))).map (fS fun l => .str (undot l)) = dS (heardOf M) from by rw [map_fS]; simp [dS, heardOf]]
          with_reducible refine go_next ?_
          -- read
          have hdec := hL.dec
          have hasc := hL.asc
          have hjl := hL.jlen
          have hsl : (Txt.stripChars pr (Str.ofString ".")).length ≤ 16 := hL.strl
          unfold joined at hdec hasc hjl
          rw [hM] at hdec hasc hjl
          with_reducible apply ex_cons
          refine ex_assignC (c := c) (d := .byt (byteArr (octs ms))) (σ' := [(Str.ofString "heard", .list (dS (heardOf M))), (Str.ofString "bits", .list (dI (listB ms))), (Str.ofString "mail", .str M), (Str.ofString "listing", .list (dS (ms.map fileOf))), (Str.ofString "pair", .str pr)]) ?_ hce ?_ ?_ rfl (ofString_ne (by decide)) rfl ?_
          · refine ev_callF (d := .str (Txt.join (Txt.stripChars pr (Str.ofString ".")) (heardOf M))) (ds := [.str pr, .bool true]) (gv_b64decode _) (by walk_at "kd") rfl rfl ?_ (b64d_cal _ _ hA3 _ _ hasc hjl hL.prA hL.pr2 _ hdec)
            with_reducible apply evs_cons
            · refine ev_meth1 (a := .str (Txt.stripChars pr (Str.ofString "."))) (b := .list (dS (heardOf M))) (mt_str F.slot_str_join F.type_str_join) ?_ ?_ (cl_join hsl hsum) rfl rfl rfl
              · refine ev_meth1 (a := .str pr) (b := .str (Str.ofString ".")) (mt_str F.slot_str_strip F.type_str_strip) ?_ ?_ (cl_stripC (by rw [hL.pr2, sizeLine_eq]; decide)) rfl rfl rfl
                · walk_at "ev"
                · walk_at "ev"
              · walk_at "ev"
            · walk_at "evs"
            · exact rfl
          · walk_at "kp"
          · walk_at "kd"
          with_reducible refine go_next ?_
          -- told
          have hbs : (byteArr (octs ms)).size = 2 * ms.length := by rw [byteArr_size, hoc]
          generalize hdR : rng 0 2 (((octs ms).length + 1) / 2) = R
          have hRl : R.length ≤ 100 := by rw [← hdR]; simp [rng]; omega
          have hRin : ∀ k ∈ R, 0 ≤ k ∧ k + 1 < ((byteArr (octs ms)).size : Int) := by
            intro k hk
            rw [← hdR] at hk
            obtain ⟨i, hi, rfl⟩ := List.mem_map.mp hk
            have := List.mem_range.mp hi
            rw [hbs]; omega
          with_reducible apply ex_cons
          refine ex_comp (x := Str.ofString "k") (ds := dI R) (fn := fI fun k => .str (rowOf (byteAt (octs ms) k * 256 + byteAt (octs ms) (k + 1)))) (cl := [(Str.ofString "read", c)]) (σf := [(Str.ofString "read", .byt (byteArr (octs ms)))])
            (σ' := [(Str.ofString "read", .byt (byteArr (octs ms))), (Str.ofString "heard", .list (dS (heardOf M))), (Str.ofString "bits", .list (dI (listB ms))), (Str.ofString "mail", .str M), (Str.ofString "listing", .list (dS (ms.map fileOf))), (Str.ofString "pair", .str pr)]) ?_ ?_ ?_ ?_ ?_ ?_ ?_ ?_ ?_ ?_ ?_ ?_ ?_
          · rw [← hdR]
            refine itr_rng (ev_range3 (a := 0) (b := ((byteArr (octs ms)).size : Int)) (c := 2) (gv_range _) ?_ ?_ (by decide) (by decide)) hA3.hh ?_ ?_
            · walk_at "kd"
            · with_reducible apply evs_cons
              · walk_at "ev"
              · with_reducible apply evs_cons
                · refine ev_callB (d := .byt (byteArr (octs ms))) (ds := []) (gv_len _) (by walk_at "kd") ?_ (cl_lenB (by omega))
                  walk_at "evs"
                · walk_at "evs"
                · exact rfl
              · exact rfl
            · exact rng_small (by rw [hbs]; omega)
            · rw [byteArr_size]; exact range2 _
          · refine ⟨?_, by decide, rfl, by decide, rfl, rfl⟩
            exact clos_read hce
          · refine ⟨fun p hp => by rw [List.mem_singleton.mp hp, hce]; exact .head _, fun p hp => ?_⟩
            rw [List.mem_singleton.mp hp]
            have hkr : env.kindOf (Str.ofString "read") = some .cell := by walk_at "kd"
            exact ⟨.head _, hkr, relabel_free hkf hkr rfl, by rw [hce], rfl⟩
          · rw [List.length_map]; omega
          · intro d hd
            obtain ⟨x, _, rfl⟩ := List.mem_map.mp hd
            rfl
          · intro d hd C
            obtain ⟨k, hk, rfl⟩ := List.mem_map.mp hd
            have hkb := hRin k hk
            show Ev _ _ _ _ _ _ (.str (rowOf (byteAt (octs ms) k * 256 + byteAt (octs ms) (k + 1))))
            refine ev_callF (d := .int (byteAt (octs ms) k * 256 + byteAt (octs ms) (k + 1))) (ds := []) (gv_law_row _) rfl rfl rfl ?_ (row_cal _ _ (hA3.le (by decide)) _)
            have b1 := byteAt_b (octs ms) k
            have b2 := byteAt_b (octs ms) (k + 1)
            with_reducible apply evs_cons
            · refine ev_bin (a := .int (byteAt (octs ms) k * 256)) (b := .int (byteAt (octs ms) (k + 1))) ?_ ?_ b_add rfl rfl
              · refine ev_bin (a := .int (byteAt (octs ms) k)) (b := .int 256) ?_ ?_ ?_ rfl rfl
                · with_reducible apply ev_item
                  · walk_at "ev"
                  · walk_at "ev"
                  · exact i_byt hkb.1 (by omega) (by omega)
                  · exact rfl
                  · intros; exact rfl
                · walk_at "ev"
                · walk_at "bin"
              · with_reducible apply ev_item
                · walk_at "ev"
                · walk_at "ev"
                · exact i_byt (by omega) hkb.2 (by omega)
                · exact rfl
                · intros; exact rfl
            · walk_at "evs"
            · exact rfl
          · intro _; rfl
          · intro hf
            exact swaps hf (by walk_at "kd") rfl rfl
          · walk_at "kd"
          · exact rfl
          · walk_at "kp"
          · walk_at "own"
          rw [show (dI R).map (fI fun k => .str (rowOf (byteAt (octs ms) k * 256 + byteAt (octs ms) (k + 1)))) = dS (ms.map fileOf) from by
            rw [map_fI, ← hL.told, toldOf, hdR]; simp [dS]]
          with_reducible refine go_next ?_
          with_reducible apply ex_cons
          with_reducible apply ex_ret
          · refine ev_cmp (a := .list (dS (ms.map fileOf))) (b := .list (dS (ms.map fileOf))) ?_ ?_ (c_eqL (by have := hA3.un; omega)) rfl
            · walk_at "ev"
            · walk_at "ev"
          exact go_ret rfl
      · intro r hr
        obtain ⟨m, _, rfl⟩ := List.mem_map.mp hr
        exact fileOf_len m
      · walk_at "sb"
  · walk_at "sb"
end
end Mine
end
section
open PySem PySem.W PyProof.Rows
set_option Elab.async false
set_option maxRecDepth 100000
set_option linter.unusedVariables false
namespace Mine
noncomputable def mkS (l : List Nat) : Str := ⟨l.toArray⟩
theorem mkS_list (x : Str) : mkS x.cps.toList = x := by cases x; simp [mkS]
theorem mkS_len (l : List Nat) : (mkS l).length = l.length := by simp [mkS, Str.length]
/-- text lines glued -/
noncomputable def gl (sep : List Nat) (l0 : List Nat) (r : List (List Nat)) : List Nat := l0 ++ r.flatMap fun l => sep ++ l
theorem at_pair {x : Str} {k : Nat} : StrLaws.At x (mkS [13, 10]) x.length k ↔ x.cps.toList[k]? = some 13 ∧ x.cps.toList[k + 1]? = some 10 := by
  unfold StrLaws.At
  rw [StrLaws.subAt_eq]
  have e2 : (mkS [13, 10]).length = 2 := rfl
  have e3 : (mkS [13, 10]).cps.toList = [13, 10] := rfl
  rw [e2, e3]
  have hn : x.cps.toList.length = x.length := by simp [Str.length]
  rw [beq_iff_eq]
  generalize x.cps.toList = L at hn
  constructor
  · rintro ⟨h1, h2⟩
    have g : ∀ j, j < 2 → L[k + j]? = [13, 10][j]? := by
      intro j hj
      rw [← h2, List.getElem?_take_of_lt hj, List.getElem?_drop]
    exact ⟨g 0 (by decide), g 1 (by decide)⟩
  · rintro ⟨h1, h2⟩
    have l2 := (List.getElem?_eq_some_iff.mp h2).1
    refine ⟨by omega, ?_⟩
    apply List.ext_getElem?
    intro j
    match j with
    | 0 => rw [List.getElem?_take_of_lt (by decide), List.getElem?_drop]; exact h1
    | 1 => rw [List.getElem?_take_of_lt (by decide), List.getElem?_drop]; exact h2
    | j + 2 => simp; omega
theorem gl_cons (sep l0 l1 : List Nat) (r : List (List Nat)) : gl sep l0 (l1 :: r) = l0 ++ sep ++ gl sep l1 r := by simp [gl]
theorem split_from (x : Str) : ∀ (r : List (List Nat)) (pre l0 : List Nat) (cuts : List Nat) (f : Nat), x.cps.toList = pre ++ gl [13, 10] l0 r → 13 ∉ l0 → (∀ l ∈ r, 13 ∉ l) →
    StrLaws.ChainG x (mkS [13, 10]) x.length pre.length cuts f → (∀ k, f ≤ k → ¬ StrLaws.At x (mkS [13, 10]) x.length k) → StrLaws.partsFrom x 2 pre.length cuts = (l0 :: r).map mkS := by
  intro r
  induction r with
  | nil =>
    intro pre l0 cuts f hx h0 hr hG hn
    have hxl : x.length = pre.length + l0.length := by
      have : x.cps.toList.length = x.length := by simp [Str.length]
      rw [← this, hx]; simp [gl]
    cases cuts with
    | nil =>
      show [Builtin.Str.strSub x pre.length x.length] = [mkS l0]
      congr 1
      apply Str.ext'
      apply Array.toList_inj.mp
      rw [StrLaws.strSub_toList, hx, hxl]
      simp [gl, mkS]
    | cons c cs =>
      have hc := (at_pair.mp hG.2.1).1
      have ha : pre.length ≤ c := hG.1
      rw [hx, List.getElem?_append_right ha] at hc
      simp only [gl, List.flatMap_nil, List.append_nil] at hc
      exact absurd (List.mem_of_getElem? hc) h0
  | cons l1 r ih =>
    intro pre l0 cuts f hx h0 hr hG hn
    rw [gl_cons] at hx
    have hp : StrLaws.At x (mkS [13, 10]) x.length (pre.length + l0.length) := by
      refine at_pair.mpr ⟨?_, ?_⟩
      · rw [hx, List.getElem?_append_right (by omega), List.append_assoc, List.getElem?_append_right (by omega)]
        rw [show pre.length + l0.length - pre.length - l0.length = 0 from by omega]; rfl
      · rw [hx, List.getElem?_append_right (by omega), List.append_assoc, List.getElem?_append_right (by omega)]
        rw [show pre.length + l0.length + 1 - pre.length - l0.length = 1 from by omega]; rfl
    have no : ∀ c, pre.length ≤ c → c < pre.length + l0.length → ¬ StrLaws.At x (mkS [13, 10]) x.length c := by
      intro c h1 h2 hA
      have hc := (at_pair.mp hA).1
      rw [hx, List.getElem?_append_right h1, List.append_assoc, List.getElem?_append_left (by omega)] at hc
      exact h0 (List.mem_of_getElem? hc)
    cases cuts with
    | nil =>
      have e : f = pre.length := hG
      exact absurd hp (hn _ (by omega))
    | cons c cs =>
      obtain ⟨g1, g2, g3, g4⟩ := hG
      have hc : c = pre.length + l0.length := by
        rcases Nat.lt_trichotomy c (pre.length + l0.length) with h | h | h
        · exact absurd g2 (no c g1 h)
        · exact h
        · exact absurd hp (g3 _ (by omega) h)
      subst hc
      show Builtin.Str.strSub x pre.length (pre.length + l0.length) :: StrLaws.partsFrom x 2 (pre.length + l0.length + 2) cs = mkS l0 :: (l1 :: r).map mkS
      congr 1
      · apply Str.ext'
        apply Array.toList_inj.mp
        rw [StrLaws.strSub_toList, hx]
        simp [mkS]
      · have e : pre.length + l0.length + 2 = (pre ++ l0 ++ [13, 10]).length := by simp; omega
        rw [e]
        refine ih (pre ++ l0 ++ [13, 10]) l1 cs f (by rw [hx]; simp) (hr _ (.head _)) (fun l hl => hr l (.tail _ hl)) ?_ hn
        rw [← e]; exact g4
theorem split_lines (l0 : List Nat) (r : List (List Nat)) (h0 : 13 ∉ l0) (hr : ∀ l ∈ r, 13 ∉ l) : Txt.split (mkS (gl [13, 10] l0 r)) (mkS [13, 10]) = (l0 :: r).map mkS := by
  obtain ⟨f, hG, hn⟩ := StrLaws.occ_tight (mkS (gl [13, 10] l0 r)) (mkS [13, 10]) (by decide)
  have key := split_from (mkS (gl [13, 10] l0 r)) r [] l0 _ f (by simp [mkS]) h0 hr hG hn
  unfold Txt.split
  split
  · rename_i hc
    have hk : ¬ Builtin.Str.strKind (mkS (gl [13, 10] l0 r)) < Builtin.Str.strKind (mkS [13, 10]) := by
      have : Builtin.Str.strKind (mkS [13, 10]) = 1 := by decide +kernel
      rw [this]
      unfold Builtin.Str.strKind
      split
      · omega
      · split <;> omega
    rw [decide_eq_false hk, Bool.or_false, decide_eq_true_eq, mkS_len, show (mkS [13, 10]).length = 2 from rfl] at hc
    cases r with
    | nil => simp [gl]
    | cons l1 r => rw [gl_cons] at hc; simp at hc; omega
  · split
    · rename_i he
      have e0 := List.isEmpty_iff.mp he
      rw [e0] at key
      rw [← key]
      show [_] = [Builtin.Str.strSub _ 0 _]
      rw [StrLaws.sub_whole]
    · rw [StrLaws.partsBetween_eq]
      exact key
theorem slice_one (x : Str) : Txt.slice x none (some 1) = mkS (x.cps.toList.take 1) := by
  by_cases h : (1 : Int) ≤ x.length
  · have := beq_iff_eq.mp (slice_closes_toL (x := x) (j := 1) (by decide) h)
    rw [this]
    rfl
  · have hl : x.length = 0 := by omega
    have hx : x = mkS [] := by
      rw [← mkS_list x]
      congr 1
      apply List.eq_nil_of_length_eq_zero
      simpa [Str.length] using hl
    subst hx
    decide
theorem slice_rest {x : Str} (h : 1 ≤ x.length) : Txt.slice x (some 1) none = mkS (x.cps.toList.drop 1) := by
  rw [slice_from_eq (b := (x.length : Int)) (by decide) (by omega) rfl]
  unfold mkS
  have hn : x.cps.toList.length = x.length := by simp [Str.length]
  rw [List.take_of_length_le (by rw [List.length_drop]; omega)]
  rfl
/-- dot stuffing of a line -/
noncomputable def stuff : List Nat → List Nat
  | 46 :: t => 46 :: 46 :: t
  | l => l
theorem stuff_of_ne {l : List Nat} (h : l.head? ≠ some 46) : stuff l = l := by
  unfold stuff
  split
  · simp at h
  · rfl
/-- signs to mail -/
noncomputable def isNl (c : Nat) : Bool := c == 10 || c == 13
noncomputable def wire : List Nat → Bool → List Nat
  | [], _ => []
  | c :: cs, fr => (if isNl c = true then [13, 10] else if (c == 46 && fr) = true then [46, 46] else [c]) ++ wire cs (isNl c)
theorem wire_lines {nl : Nat} (hnl : isNl nl = true) : ∀ T : List Nat, (∀ c ∈ T, c = nl ∨ isNl c = false) → ∃ l0 r, T = gl [nl] l0 r ∧ (∀ l ∈ l0 :: r, ∀ c ∈ l, isNl c = false) ∧
    wire T true = gl [13, 10] (stuff l0) (r.map stuff) ∧ wire T false = gl [13, 10] l0 (r.map stuff) := by
  intro T
  induction T with
  | nil => intro _; exact ⟨[], [], rfl, by simp, rfl, rfl⟩
  | cons c cs ih =>
    intro hT
    obtain ⟨l0, r, e1, e2, e3, e4⟩ := ih fun d hd => hT d (.tail _ hd)
    by_cases hc : isNl c = true
    · have hcn : c = nl := by
        rcases hT c (.head _) with h | h
        · exact h
        · rw [h] at hc; cases hc
      refine ⟨[], l0 :: r, ?_, ?_, ?_, ?_⟩
      · rw [gl_cons, ← e1, hcn]; rfl
      · intro l hl
        rcases List.mem_cons.mp hl with rfl | hl
        · intro d hd; cases hd
        · exact e2 l hl
      · rw [wire, if_pos hc, hc, e3, List.map_cons, gl_cons]; rfl
      · rw [wire, if_pos hc, hc, e3, List.map_cons, gl_cons]; rfl
    · have hcf : isNl c = false := by simpa using hc
      refine ⟨c :: l0, r, ?_, ?_, ?_, ?_⟩
      · rw [e1]; rfl
      · intro l hl
        rcases List.mem_cons.mp hl with rfl | hl
        · intro d hd
          rcases List.mem_cons.mp hd with rfl | hd
          · exact hcf
          · exact e2 l0 (.head _) d hd
        · exact e2 l (.tail _ hl)
      · rw [wire, if_neg hc, hcf, e4]
        by_cases h46 : c = 46
        · subst h46; rfl
        · have hb : (c == 46 && true) = false := by simpa using h46
          rw [if_neg (by rw [hb]; decide), stuff_of_ne (by simpa using h46)]; rfl
      · rw [wire, if_neg hc, hcf, e4]
        have hb : (c == 46 && false) = false := by simp
        rw [if_neg (by rw [hb]; decide)]; rfl
theorem stuff_free {l : List Nat} (h : 13 ∉ l) : 13 ∉ stuff l := by
  unfold stuff
  split
  · rename_i t
    intro hm
    rcases List.mem_cons.mp hm with h1 | h1
    · cases h1
    · exact h h1
  · exact h
theorem join_gl (sep l0 : List Nat) (r : List (List Nat)) : (Txt.join (mkS sep) ((l0 :: r).map mkS)).cps.toList = gl sep l0 r := by
  have gf : ∀ (l : List Str) (acc : Array Nat), (l.foldl (fun acc p => acc ++ (mkS sep).cps ++ p.cps) acc).toList = acc.toList ++ l.flatMap (fun p => sep ++ p.cps.toList) := by
    intro l
    induction l with
    | nil => intro acc; simp
    | cons x l ih =>
      intro acc
      rw [List.foldl_cons, ih]
      simp [mkS]
  refine (gf (r.map mkS) (mkS l0).cps).trans ?_
  simp [gl, mkS, List.flatMap_map]
end Mine
end
section
open PySem PySem.W PyProof.Rows
set_option Elab.async false
set_option maxRecDepth 100000
set_option linter.unusedVariables false
namespace Mine
theorem nat_and_two_pow (n i : Nat) : n &&& 2 ^ i = n / 2 ^ i % 2 * 2 ^ i := by
  apply Nat.eq_of_testBit_eq
  intro j
  rw [Nat.testBit_and, Nat.testBit_two_pow]
  by_cases hj : i = j
  · subst hj
    rw [Nat.testBit_eq_decide_div_mod_eq (x := n)]
    rcases Nat.mod_two_eq_zero_or_one (n / 2 ^ i) with h | h <;> rw [h] <;> simp [Nat.testBit_two_pow]
  · rw [decide_eq_false hj, Bool.and_false]
    rcases Nat.mod_two_eq_zero_or_one (n / 2 ^ i) with h | h <;> rw [h]
    · simp
    · rw [Nat.one_mul, Nat.testBit_two_pow, decide_eq_false hj]
theorem nat_and_kind (n : Nat) : n &&& 61440 = n / 4096 % 16 * 4096 := by
  have e : (61440 : Nat) = 15 <<< 12 := by decide
  have e2 : n &&& (15 <<< 12) = ((n >>> 12) &&& 15) <<< 12 := by
    apply Nat.eq_of_testBit_eq
    intro i
    rw [Nat.testBit_and, Nat.testBit_shiftLeft, Nat.testBit_shiftLeft, Nat.testBit_and, Nat.testBit_shiftRight]
    by_cases h : 12 ≤ i
    · rw [show 12 + (i - 12) = i from by omega]
      simp [h]
    · simp [h]
  rw [e, e2, show (15 : Nat) = 2 ^ 4 - 1 from rfl, Nat.and_two_pow_sub_one_eq_mod, Nat.shiftLeft_eq, Nat.shiftRight_eq_div_pow]
theorem and_bit {m : Int} (h : 0 ≤ m) (i : Nat) : Builtin.bitAnd m ((2 ^ i : Nat) : Int) = m / ((2 ^ i : Nat) : Int) % 2 * ((2 ^ i : Nat) : Int) := by
  rw [bitAnd_pp h (Int.natCast_nonneg _), Int.toNat_natCast, nat_and_two_pow]
  have e : ((m.toNat : Nat) : Int) = m := Int.toNat_of_nonneg h
  rw [← e]
  simp
theorem and_kind {m : Int} (h : 0 ≤ m) : Builtin.bitAnd m 61440 = m / 4096 % 16 * 4096 := by
  rw [bitAnd_pp h (by decide), show (61440 : Int).toNat = 61440 from rfl, nat_and_kind]
  have e : ((m.toNat : Nat) : Int) = m := Int.toNat_of_nonneg h
  rw [← e]
  simp
/-- the bit of a mode -/
noncomputable def xb (m : Int) (i : Nat) : Int := m / ((2 ^ i : Nat) : Int) % 2
theorem xb_b (m : Int) (i : Nat) : xb m i = 0 ∨ xb m i = 1 := by unfold xb; generalize m / ((2 ^ i : Nat) : Int) = z; omega
theorem and1 {m : Int} (h : 0 ≤ m) (i : Nat) : Builtin.bitAnd m ((2 ^ i : Nat) : Int) = ((2 ^ i : Nat) : Int) ↔ xb m i = 1 := by
  rw [and_bit h]
  show xb m i * _ = _ ↔ _
  have hp : (0 : Int) < ((2 ^ i : Nat) : Int) := by exact_mod_cast Nat.two_pow_pos i
  rcases xb_b m i with e | e <;> rw [e]
  · rw [Int.zero_mul]; constructor <;> intro q <;> omega
  · rw [Int.one_mul]; simp
theorem nat_and2 (n i j : Nat) : n &&& (2 ^ i ||| 2 ^ j) = (n / 2 ^ i % 2 * 2 ^ i) ||| (n / 2 ^ j % 2 * 2 ^ j) := by
  rw [Nat.and_or_distrib_left, nat_and_two_pow, nat_and_two_pow]
theorem and2 {m : Int} (h : 0 ≤ m) (i j : Nat) {a : Int} (ha : a = ((2 ^ i ||| 2 ^ j : Nat) : Int)) (h1 : 2 ^ i ≠ 2 ^ i ||| 2 ^ j) (h2 : 2 ^ j ≠ 2 ^ i ||| 2 ^ j) (h3 : 0 ≠ 2 ^ i ||| 2 ^ j) : Builtin.bitAnd m a = a ↔ xb m i = 1 ∧ xb m j = 1 := by
  subst ha
  rw [bitAnd_pp h (Int.natCast_nonneg _), Int.toNat_natCast, nat_and2]
  have e : ((m.toNat : Nat) : Int) = m := Int.toNat_of_nonneg h
  have q : ∀ k, xb m k = ((m.toNat / 2 ^ k % 2 : Nat) : Int) := by
    intro k; unfold xb; rw [← e]; simp
  rw [q, q]
  rw [show ((m.toNat / 2 ^ i % 2 : Nat) : Int) = 1 ↔ m.toNat / 2 ^ i % 2 = 1 from by omega, show ((m.toNat / 2 ^ j % 2 : Nat) : Int) = 1 ↔ m.toNat / 2 ^ j % 2 = 1 from by omega, Int.natCast_inj]
  rcases Nat.mod_two_eq_zero_or_one (m.toNat / 2 ^ i) with e1 | e1 <;> rcases Nat.mod_two_eq_zero_or_one (m.toNat / 2 ^ j) with e2 | e2 <;> rw [e1, e2] <;> simp
  · exact h3
  · exact h2
  · exact h1
/-- a mode of the law -/
noncomputable def Good (m : Int) : Prop := ∃ k p : Int, k ∈ ([8, 4, 10, 12, 6, 2, 1] : List Int) ∧ 0 ≤ p ∧ p < 4096 ∧ m = k * 4096 + p
theorem Good.b {m : Int} (h : Good m) : 0 ≤ m ∧ m < 65536 := by
  obtain ⟨k, p, hk, h0, h1, rfl⟩ := h
  have : ∀ k ∈ ([8, 4, 10, 12, 6, 2, 1] : List Int), 0 ≤ k ∧ k < 16 := by decide
  have := this k hk
  omega
theorem Good.kind {m : Int} (h : Good m) : m / 4096 ∈ ([8, 4, 10, 12, 6, 2, 1] : List Int) := by
  obtain ⟨k, p, hk, h0, h1, rfl⟩ := h
  have : (k * 4096 + p) / 4096 = k := by omega
  rw [this]; exact hk
theorem good_mode (x : Int) : Good (modeOf x) := by
  unfold modeOf
  generalize x.fmod 1000000000 = y
  unfold modeY
  have hb1 := six_b y
  have hb2 := six_b (y.fdiv 256)
  refine ⟨kinds.getD ((y.fdiv 65536).fmod 7).toNat 0, six y * 64 + six (y.fdiv 256), ?_, by omega, by omega, by omega⟩
  have h7 := fmod_b (y.fdiv 65536) (b := 7) (by decide)
  generalize (y.fdiv 65536).fmod 7 = z at h7
  have : z = 0 ∨ z = 1 ∨ z = 2 ∨ z = 3 ∨ z = 4 ∨ z = 5 ∨ z = 6 := by omega
  rcases this with rfl | rfl | rfl | rfl | rfl | rfl | rfl <;> decide
theorem good_first : Good 36862 := ⟨8, 4094, by decide, by decide, by decide, by decide⟩
noncomputable def kc (k : Int) : Nat := [63, 112, 99, 63, 100, 63, 98, 63, 45, 63, 108, 63, 115, 63, 63, 63].getD k.toNat 0
noncomputable def c2 (a : Nat) (x : Int) : Nat := if x = 1 then a else 45
noncomputable def c3 (a b : Nat) (x y : Int) : Nat := if x = 1 ∧ y = 1 then a else if x = 1 then b else if y = 1 then 120 else 45
noncomputable def chs (m : Int) : List Nat := [kc (m / 4096), c2 114 (xb m 8), c2 119 (xb m 7), c3 115 83 (xb m 11) (xb m 6), c2 114 (xb m 5), c2 119 (xb m 4), c3 115 83 (xb m 10) (xb m 3), c2 114 (xb m 2), c2 119 (xb m 1), c3 116 84 (xb m 9) (xb m 0)]
theorem pick_one {m : Int} (h : 0 ≤ m) {idx : Int} (hi : idx ≠ 0) (i c : Nat) {b : Int} (hb : b = ((2 ^ i : Nat) : Int)) : pick m idx [(b, mkS [c])] = mkS [c2 c (xb m i)] := by
  unfold pick c2
  rw [if_neg hi, hb]
  by_cases hx : xb m i = 1
  · rw [if_pos ((and1 h i).mpr hx), if_pos hx]
  · rw [if_neg (fun q => hx ((and1 h i).mp q)), if_neg hx]
    unfold pick
    rw [if_neg hi]; rfl
theorem pick_three {m : Int} (h : 0 ≤ m) {idx : Int} (hi : idx ≠ 0) (i j c d : Nat) {a b b' : Int} (ha : a = ((2 ^ i ||| 2 ^ j : Nat) : Int)) (hb : b = ((2 ^ i : Nat) : Int)) (hb' : b' = ((2 ^ j : Nat) : Int))
    (h1 : 2 ^ i ≠ 2 ^ i ||| 2 ^ j) (h2 : 2 ^ j ≠ 2 ^ i ||| 2 ^ j) (h3 : 0 ≠ 2 ^ i ||| 2 ^ j) : pick m idx [(a, mkS [c]), (b, mkS [d]), (b', mkS [120])] = mkS [c3 c d (xb m i) (xb m j)] := by
  unfold pick c3
  rw [if_neg hi]
  by_cases hx : xb m i = 1 ∧ xb m j = 1
  · rw [if_pos ((and2 h i j ha h1 h2 h3).mpr hx), if_pos hx]
  · rw [if_neg (fun q => hx ((and2 h i j ha h1 h2 h3).mp q)), if_neg hx]
    unfold pick
    rw [if_neg hi, hb]
    by_cases hy : xb m i = 1
    · rw [if_pos ((and1 h i).mpr hy), if_pos hy]
    · rw [if_neg (fun q => hy ((and1 h i).mp q)), if_neg hy]
      exact pick_one h hi j 120 hb'
theorem pick_kind {m : Int} (h : Good m) : pick m 0 [(40960, Str.ofString "l"), (49152, Str.ofString "s"), (32768, Str.ofString "-"), (24576, Str.ofString "b"), (16384, Str.ofString "d"), (8192, Str.ofString "c"), (4096, Str.ofString "p")] = mkS [kc (m / 4096)] := by
  have e := and_kind h.b.1
  have hk := h.kind
  generalize m / 4096 = k at e hk
  simp only [pick, if_pos, e]
  have : ∀ k ∈ ([8, 4, 10, 12, 6, 2, 1] : List Int), (if k % 16 * 4096 = 40960 then Str.ofString "l" else if k % 16 * 4096 = 49152 then Str.ofString "s" else if k % 16 * 4096 = 32768 then Str.ofString "-" else if k % 16 * 4096 = 24576 then Str.ofString "b" else if k % 16 * 4096 = 16384 then Str.ofString "d" else if k % 16 * 4096 = 8192 then Str.ofString "c" else if k % 16 * 4096 = 4096 then Str.ofString "p" else Str.ofString "?") = mkS [kc k] := by decide
  exact this k hk
theorem picks_chs {m : Int} (h : Good m) : picks m = (chs m).map fun c => mkS [c] := by
  have h0 := h.b.1
  unfold picks tabs
  simp only [List.map_cons, List.map_nil]
  rw [pick_kind h]
  unfold chs
  simp only [List.map_cons, List.map_nil]
  rw [show Str.ofString "r" = mkS [114] from rfl, show Str.ofString "w" = mkS [119] from rfl, show Str.ofString "x" = mkS [120] from rfl, show Str.ofString "s" = mkS [115] from rfl, show Str.ofString "S" = mkS [83] from rfl, show Str.ofString "t" = mkS [116] from rfl, show Str.ofString "T" = mkS [84] from rfl]
  rw [pick_one h0 (by decide) 8 114 (b := 256) rfl, pick_one h0 (by decide) 7 119 (b := 128) rfl, pick_three h0 (by decide) 11 6 115 83 (a := 2112) (b := 2048) (b' := 64) (by decide) rfl rfl (by decide) (by decide) (by decide)]
  rw [pick_one h0 (by decide) 5 114 (b := 32) rfl, pick_one h0 (by decide) 4 119 (b := 16) rfl, pick_three h0 (by decide) 10 3 115 83 (a := 1032) (b := 1024) (b' := 8) (by decide) rfl rfl (by decide) (by decide) (by decide)]
  rw [pick_one h0 (by decide) 2 114 (b := 4) rfl, pick_one h0 (by decide) 1 119 (b := 2) rfl, pick_three h0 (by decide) 9 0 116 84 (a := 513) (b := 512) (b' := 1) (by decide) rfl rfl (by decide) (by decide) (by decide)]
theorem file_chs {m : Int} (h : Good m) : fileOf m = mkS (chs m) := by
  apply Str.ext'
  apply Array.toList_inj.mp
  unfold fileOf
  rw [join_cat, picks_chs h]
  unfold catN
  rw [List.flatMap_map]
  show ((chs m).flatMap fun c => [c]) = chs m
  induction chs m with
  | nil => rfl
  | cons c l ih => rw [List.flatMap_cons, ih]; rfl
end Mine
end
section
open PySem PySem.W PyProof.Rows
set_option Elab.async false
set_option maxRecDepth 100000
set_option linter.unusedVariables false
namespace Mine
theorem dd (a b c : Int) (h : 0 ≤ b) : a / (b * c) = a / b / c := (Int.ediv_ediv_of_nonneg h).symm
theorem bs (a b : Int) (h : 0 < b) : a / b % 2 * b + a % b = a % (b * 2) := by
  rw [Int.emod_def a b, Int.emod_def a (b * 2), dd a b 2 (Int.le_of_lt h), Int.emod_def (a / b) 2, Int.sub_mul, Int.mul_comm (a / b) b, Int.mul_comm (2 * (a / b / 2)) b, ← Int.mul_assoc]
  omega
theorem gen {n : Int} (x y b c : Int) (hb : 0 < b) (h : n = c * 2 * b) : (x * n + y) / b % 2 = y / b % 2 := by
  rw [h, ← Int.mul_assoc, Int.mul_add_ediv_right _ _ (Int.ne_of_gt hb), ← Int.mul_assoc, Int.add_comm, Int.add_mul_emod_self_right]
theorem nbp {n : Int} (b c p k : Int) (hb : 0 < b) (h : (4096 : Int) = c * 2 * b) (hn : n = 16 * b) (h2 : 0 ≤ k) (h3 : k < 16) : (p * 16 + k) / n % 2 = (k * 4096 + p) / b % 2 := by
  rw [gen k p b c hb h, hn, dd _ 16 b (by decide), show (p * 16 + k) / 16 = p from by omega]
noncomputable def w6 (a b c d e f : Int) : Int := (((((0 * 2 + a) * 2 + b) * 2 + c) * 2 + d) * 2 + e) * 2 + f
theorem w6l {a b c d e f m6 m5 m4 m3 m2 : Int} (h6 : a * 32 + m5 = m6) (h5 : b * 16 + m4 = m5) (h4 : c * 8 + m3 = m4) (h3 : d * 4 + m2 = m3) (h2 : e * 2 + f = m2) : w6 a b c d e f = m6 := by
  subst h2 h3 h4 h5 h6
  unfold w6; omega
theorem w42 {a b c d e f m4 m3 m2 n2 : Int} (h4 : a * 8 + m3 = m4) (h3 : b * 4 + m2 = m3) (h2 : c * 2 + d = m2) (k2 : e * 2 + f = n2) : w6 a b c d e f = m4 * 4 + n2 := by
  subst h2 h3 h4 k2
  unfold w6; omega
theorem w24 {a b c d e f m2 n4 n3 n2 : Int} (h2 : a * 2 + b = m2) (k4 : c * 8 + n3 = n4) (k3 : d * 4 + n2 = n3) (k2 : e * 2 + f = n2) : w6 a b c d e f = m2 * 16 + n4 := by
  subst h2 k2 k3 k4
  unfold w6; omega
theorem b32 (z : Int) : z / 32 % 2 * 32 + z % 32 = z % 64 := bs z 32 (by decide)
theorem b16' (z : Int) : z / 16 % 2 * 16 + z % 16 = z % 32 := bs z 16 (by decide)
theorem b8' (z : Int) : z / 8 % 2 * 8 + z % 8 = z % 16 := bs z 8 (by decide)
theorem b4' (z : Int) : z / 4 % 2 * 4 + z % 4 = z % 8 := bs z 4 (by decide)
theorem b2' (z : Int) : z / 2 % 2 * 2 + z % 2 = z % 4 := bs z 2 (by decide)
theorem w6z (z : Int) : w6 (z / 32 % 2) (z / 16 % 2) (z / 8 % 2) (z / 4 % 2) (z / 2 % 2) (z % 2) = z % 64 := w6l (b32 z) (b16' z) (b8' z) (b4' z) (b2' z)
/-- six bits at a place -/
theorem w6at (a n : Int) (h : 0 ≤ n) : w6 (a / (n * 32) % 2) (a / (n * 16) % 2) (a / (n * 8) % 2) (a / (n * 4) % 2) (a / (n * 2) % 2) (a / n % 2) = a / n % 64 := by
  rw [dd a n 32 h, dd a n 16 h, dd a n 8 h, dd a n 4 h, dd a n 2 h]
  exact w6z _
theorem wA (a : Int) : w6 (a / 32768 % 2) (a / 16384 % 2) (a / 8192 % 2) (a / 4096 % 2) (a / 2048 % 2) (a / 1024 % 2) = a / 1024 % 64 := w6at a 1024 (by decide)
theorem wB (a : Int) : w6 (a / 512 % 2) (a / 256 % 2) (a / 128 % 2) (a / 64 % 2) (a / 32 % 2) (a / 16 % 2) = a / 16 % 64 := w6at a 16 (by decide)
theorem wC (a b : Int) : w6 (a / 8 % 2) (a / 4 % 2) (a / 2 % 2) (a % 2) (b / 32768 % 2) (b / 16384 % 2) = a % 16 * 4 + b / 16384 % 4 := by
  rw [show b / 32768 = b / 16384 / 2 from dd b 16384 2 (by decide)]
  exact w42 (b8' a) (b4' a) (b2' a) (b2' (b / 16384))
theorem wC0 (a : Int) : w6 (a / 8 % 2) (a / 4 % 2) (a / 2 % 2) (a % 2) 0 0 = a % 16 * 4 := (w42 (b8' a) (b4' a) (b2' a) (rfl : (0 : Int) * 2 + 0 = 0)).trans (Int.add_zero _)
theorem wD (b : Int) : w6 (b / 8192 % 2) (b / 4096 % 2) (b / 2048 % 2) (b / 1024 % 2) (b / 512 % 2) (b / 256 % 2) = b / 256 % 64 := w6at b 256 (by decide)
theorem wE (b : Int) : w6 (b / 128 % 2) (b / 64 % 2) (b / 32 % 2) (b / 16 % 2) (b / 8 % 2) (b / 4 % 2) = b / 4 % 64 := w6at b 4 (by decide)
theorem wF (b c : Int) : w6 (b / 2 % 2) (b % 2) (c / 32768 % 2) (c / 16384 % 2) (c / 8192 % 2) (c / 4096 % 2) = b % 4 * 16 + c / 4096 % 16 := by
  rw [show c / 32768 = c / 4096 / 8 from dd c 4096 8 (by decide), show c / 16384 = c / 4096 / 4 from dd c 4096 4 (by decide), show c / 8192 = c / 4096 / 2 from dd c 4096 2 (by decide)]
  exact w24 (b2' b) (b8' (c / 4096)) (b4' (c / 4096)) (b2' (c / 4096))
theorem wF0 (b : Int) : w6 (b / 2 % 2) (b % 2) 0 0 0 0 = b % 4 * 16 := (w24 (b2' b) (rfl : (0 : Int) * 8 + 0 = 0) (rfl : (0 : Int) * 4 + 0 = 0) (rfl : (0 : Int) * 2 + 0 = 0)).trans (Int.add_zero _)
theorem wG (c : Int) : w6 (c / 2048 % 2) (c / 1024 % 2) (c / 512 % 2) (c / 256 % 2) (c / 128 % 2) (c / 64 % 2) = c / 64 % 64 := w6at c 64 (by decide)
theorem three (z : Int) : z % 8 = 4 * (z / 4 % 2) + 2 * (z / 2 % 2) + z % 2 := by
  have h4 := b4' z
  have h2 := b2' z
  generalize z / 4 % 2 = a at h4 ⊢
  generalize z / 2 % 2 = b at h2 ⊢
  generalize z % 2 = c at h2 ⊢
  generalize z % 4 = d at h4 h2
  omega
end Mine
end
section
open PySem PySem.W PyProof.Rows
set_option Elab.async false
set_option maxRecDepth 100000
set_option linter.unusedVariables false
namespace Mine
theorem and_low {m : Int} (h : 0 ≤ m) : Builtin.bitAnd m 4095 = m % 4096 := by
  rw [bitAnd_pp h (by decide), show (4095 : Int).toNat = 2 ^ 12 - 1 from rfl, Nat.and_two_pow_sub_one_eq_mod]
  have e : ((m.toNat : Nat) : Int) = m := Int.toNat_of_nonneg h
  rw [← e]
  simp
theorem num_eq {m : Int} (h : Good m) : num m = m % 4096 * 16 + m / 4096 := by
  unfold num
  rw [show Builtin.bitAnd m 4095 = m % 4096 from and_low h.b.1, and_kind h.b.1, Int.fdiv_eq_ediv_of_nonneg _ (by decide)]
  have := h.b
  omega
theorem num_b {m : Int} (h : Good m) : 0 ≤ num m ∧ num m < 65536 := by
  rw [num_eq h]
  have := h.b
  omega
theorem nbp0 (p k : Int) (h0 : 0 ≤ p) (h1 : p < 4096) (h2 : 0 ≤ k) (h3 : k < 16) : (p * 16 + k) / 16 % 2 = (k * 4096 + p) / 1 % 2 := nbp 1 2048 p k (by decide) rfl rfl h2 h3
theorem nbp1 (p k : Int) (h0 : 0 ≤ p) (h1 : p < 4096) (h2 : 0 ≤ k) (h3 : k < 16) : (p * 16 + k) / 32 % 2 = (k * 4096 + p) / 2 % 2 := nbp 2 1024 p k (by decide) rfl rfl h2 h3
theorem nbp2 (p k : Int) (h0 : 0 ≤ p) (h1 : p < 4096) (h2 : 0 ≤ k) (h3 : k < 16) : (p * 16 + k) / 64 % 2 = (k * 4096 + p) / 4 % 2 := nbp 4 512 p k (by decide) rfl rfl h2 h3
theorem nbp3 (p k : Int) (h0 : 0 ≤ p) (h1 : p < 4096) (h2 : 0 ≤ k) (h3 : k < 16) : (p * 16 + k) / 128 % 2 = (k * 4096 + p) / 8 % 2 := nbp 8 256 p k (by decide) rfl rfl h2 h3
theorem nbp4 (p k : Int) (h0 : 0 ≤ p) (h1 : p < 4096) (h2 : 0 ≤ k) (h3 : k < 16) : (p * 16 + k) / 256 % 2 = (k * 4096 + p) / 16 % 2 := nbp 16 128 p k (by decide) rfl rfl h2 h3
theorem nbp5 (p k : Int) (h0 : 0 ≤ p) (h1 : p < 4096) (h2 : 0 ≤ k) (h3 : k < 16) : (p * 16 + k) / 512 % 2 = (k * 4096 + p) / 32 % 2 := nbp 32 64 p k (by decide) rfl rfl h2 h3
theorem nbp6 (p k : Int) (h0 : 0 ≤ p) (h1 : p < 4096) (h2 : 0 ≤ k) (h3 : k < 16) : (p * 16 + k) / 1024 % 2 = (k * 4096 + p) / 64 % 2 := nbp 64 32 p k (by decide) rfl rfl h2 h3
theorem nbp7 (p k : Int) (h0 : 0 ≤ p) (h1 : p < 4096) (h2 : 0 ≤ k) (h3 : k < 16) : (p * 16 + k) / 2048 % 2 = (k * 4096 + p) / 128 % 2 := nbp 128 16 p k (by decide) rfl rfl h2 h3
theorem nbp8 (p k : Int) (h0 : 0 ≤ p) (h1 : p < 4096) (h2 : 0 ≤ k) (h3 : k < 16) : (p * 16 + k) / 4096 % 2 = (k * 4096 + p) / 256 % 2 := nbp 256 8 p k (by decide) rfl rfl h2 h3
theorem nbp9 (p k : Int) (h0 : 0 ≤ p) (h1 : p < 4096) (h2 : 0 ≤ k) (h3 : k < 16) : (p * 16 + k) / 8192 % 2 = (k * 4096 + p) / 512 % 2 := nbp 512 4 p k (by decide) rfl rfl h2 h3
theorem nbp10 (p k : Int) (h0 : 0 ≤ p) (h1 : p < 4096) (h2 : 0 ≤ k) (h3 : k < 16) : (p * 16 + k) / 16384 % 2 = (k * 4096 + p) / 1024 % 2 := nbp 1024 2 p k (by decide) rfl rfl h2 h3
theorem nbp11 (p k : Int) (h0 : 0 ≤ p) (h1 : p < 4096) (h2 : 0 ≤ k) (h3 : k < 16) : (p * 16 + k) / 32768 % 2 = (k * 4096 + p) / 2048 % 2 := nbp 2048 1 p k (by decide) rfl rfl h2 h3
theorem nbk1 (p k : Int) : (p * 16 + k) / 2 % 2 = k / 2 % 2 := gen p k 2 4 (by decide) rfl
theorem nbk2 (p k : Int) : (p * 16 + k) / 4 % 2 = k / 4 % 2 := gen p k 4 2 (by decide) rfl
theorem nbk3 (p k : Int) : (p * 16 + k) / 8 % 2 = k / 8 % 2 := gen p k 8 1 (by decide) rfl
theorem nbk0 (p k : Int) : (p * 16 + k) % 2 = k % 2 := by omega
theorem num_p {k p : Int} (h : Good (k * 4096 + p)) (h0 : 0 ≤ p) (h1 : p < 4096) : num (k * 4096 + p) = p * 16 + k := by
  rw [num_eq h]; omega
/-- sixteen bits -/
noncomputable def b16 (n : Int) : List Int := [n / 32768 % 2, n / 16384 % 2, n / 8192 % 2, n / 4096 % 2, n / 2048 % 2, n / 1024 % 2, n / 512 % 2, n / 256 % 2, n / 128 % 2, n / 64 % 2, n / 32 % 2, n / 16 % 2, n / 8 % 2, n / 4 % 2, n / 2 % 2, n % 2]
theorem xb_num {m : Int} (h : Good m) : b16 (num m) = [xb m 11, xb m 10, xb m 9, xb m 8, xb m 7, xb m 6, xb m 5, xb m 4, xb m 3, xb m 2, xb m 1, xb m 0, m / 4096 / 8 % 2, m / 4096 / 4 % 2, m / 4096 / 2 % 2, m / 4096 % 2] := by
  have hg := h
  obtain ⟨k, p, hk, h0, h1, rfl⟩ := h
  have hk2 : ∀ k ∈ ([8, 4, 10, 12, 6, 2, 1] : List Int), 0 ≤ k ∧ k < 16 := by decide
  have hk3 := hk2 k hk
  have hd : (k * 4096 + p) / 4096 = k := by omega
  rw [num_p hg h0 h1, hd]
  unfold b16
  rw [show xb (k * 4096 + p) 11 = (k * 4096 + p) / 2048 % 2 from rfl, show xb (k * 4096 + p) 10 = (k * 4096 + p) / 1024 % 2 from rfl, show xb (k * 4096 + p) 9 = (k * 4096 + p) / 512 % 2 from rfl, show xb (k * 4096 + p) 8 = (k * 4096 + p) / 256 % 2 from rfl, show xb (k * 4096 + p) 7 = (k * 4096 + p) / 128 % 2 from rfl, show xb (k * 4096 + p) 6 = (k * 4096 + p) / 64 % 2 from rfl, show xb (k * 4096 + p) 5 = (k * 4096 + p) / 32 % 2 from rfl, show xb (k * 4096 + p) 4 = (k * 4096 + p) / 16 % 2 from rfl, show xb (k * 4096 + p) 3 = (k * 4096 + p) / 8 % 2 from rfl, show xb (k * 4096 + p) 2 = (k * 4096 + p) / 4 % 2 from rfl, show xb (k * 4096 + p) 1 = (k * 4096 + p) / 2 % 2 from rfl, show xb (k * 4096 + p) 0 = (k * 4096 + p) / 1 % 2 from rfl]
  rw [nbp11 p k h0 h1 hk3.1 hk3.2, nbp10 p k h0 h1 hk3.1 hk3.2, nbp9 p k h0 h1 hk3.1 hk3.2, nbp8 p k h0 h1 hk3.1 hk3.2, nbp7 p k h0 h1 hk3.1 hk3.2, nbp6 p k h0 h1 hk3.1 hk3.2, nbp5 p k h0 h1 hk3.1 hk3.2, nbp4 p k h0 h1 hk3.1 hk3.2, nbp3 p k h0 h1 hk3.1 hk3.2, nbp2 p k h0 h1 hk3.1 hk3.2, nbp1 p k h0 h1 hk3.1 hk3.2, nbp0 p k h0 h1 hk3.1 hk3.2, nbk3, nbk2, nbk1, nbk0]
theorem inS_one (x : Str) (c : Nat) : inS x (mkS [c]) = decide (c ∈ x.cps.toList) := StrLaws.found_one x c
theorem a3s {x y : Int} (hx : x = 0 ∨ x = 1) (hy : y = 0 ∨ y = 1) : bI (inS (Str.ofString "sStT") (mkS [c3 115 83 x y])) = x := by
  rw [inS_one]
  rcases hx with rfl | rfl <;> rcases hy with rfl | rfl <;> decide
theorem a3t {x y : Int} (hx : x = 0 ∨ x = 1) (hy : y = 0 ∨ y = 1) : bI (inS (Str.ofString "sStT") (mkS [c3 116 84 x y])) = x := by
  rw [inS_one]
  rcases hx with rfl | rfl <;> rcases hy with rfl | rfl <;> decide
theorem b3s {x y : Int} (hx : x = 0 ∨ x = 1) (hy : y = 0 ∨ y = 1) : bI (inS (Str.ofString "rwxst") (mkS [c3 115 83 x y])) = y := by
  rw [inS_one]
  rcases hx with rfl | rfl <;> rcases hy with rfl | rfl <;> decide
theorem b3t {x y : Int} (hx : x = 0 ∨ x = 1) (hy : y = 0 ∨ y = 1) : bI (inS (Str.ofString "rwxst") (mkS [c3 116 84 x y])) = y := by
  rw [inS_one]
  rcases hx with rfl | rfl <;> rcases hy with rfl | rfl <;> decide
theorem b2r {x : Int} (hx : x = 0 ∨ x = 1) : bI (inS (Str.ofString "rwxst") (mkS [c2 114 x])) = x := by
  rw [inS_one]
  rcases hx with rfl | rfl <;> decide
theorem b2w {x : Int} (hx : x = 0 ∨ x = 1) : bI (inS (Str.ofString "rwxst") (mkS [c2 119 x])) = x := by
  rw [inS_one]
  rcases hx with rfl | rfl <;> decide
theorem find_kind {k : Int} (h : k ∈ ([8, 4, 10, 12, 6, 2, 1] : List Int)) : Txt.find (Str.ofString "?pc?d?b?-?l?s???") (mkS [kc k]) = k := by
  revert h
  revert k
  decide +kernel
theorem bits_chs {m : Int} (h : Good m) : bitsOf (mkS (chs m)) = b16 (num m) := by
  rw [xb_num h]
  have b := xb_b m
  have hk := find_kind h.kind
  unfold bitsOf kindOf bitA bitB
  have i0 : Txt.item (mkS (chs m)) 0 = mkS [kc (m / 4096)] := rfl
  have i1 : Txt.item (mkS (chs m)) 1 = mkS [c2 114 (xb m 8)] := rfl
  have i2 : Txt.item (mkS (chs m)) 2 = mkS [c2 119 (xb m 7)] := rfl
  have i3 : Txt.item (mkS (chs m)) 3 = mkS [c3 115 83 (xb m 11) (xb m 6)] := rfl
  have i4 : Txt.item (mkS (chs m)) 4 = mkS [c2 114 (xb m 5)] := rfl
  have i5 : Txt.item (mkS (chs m)) 5 = mkS [c2 119 (xb m 4)] := rfl
  have i6 : Txt.item (mkS (chs m)) 6 = mkS [c3 115 83 (xb m 10) (xb m 3)] := rfl
  have i7 : Txt.item (mkS (chs m)) 7 = mkS [c2 114 (xb m 2)] := rfl
  have i8 : Txt.item (mkS (chs m)) 8 = mkS [c2 119 (xb m 1)] := rfl
  have i9 : Txt.item (mkS (chs m)) 9 = mkS [c3 116 84 (xb m 9) (xb m 0)] := rfl
  simp only [List.map_cons, List.map_nil, List.cons_append, List.nil_append]
  rw [i0, i1, i2, i3, i4, i5, i6, i7, i8, i9, hk, a3s (b 11) (b 6), a3s (b 10) (b 3), a3t (b 9) (b 0), b2r (b 8), b2w (b 7), b3s (b 11) (b 6), b2r (b 5), b2w (b 4), b3s (b 10) (b 3), b2r (b 2), b2w (b 1), b3t (b 9) (b 0)]
  have f : ∀ x : Int, 0 < x → ((m / 4096).fdiv x).fmod 2 = m / 4096 / x % 2 := by
    intro x hx
    rw [Int.fdiv_eq_ediv_of_nonneg _ (by omega), Int.fmod_eq_emod_of_nonneg _ (by decide)]
  rw [f 8 (by decide), f 4 (by decide), f 2 (by decide), f 1 (by decide), Int.ediv_one]
theorem bits_file {m : Int} (h : Good m) : bitsOf (fileOf m) = b16 (num m) := by rw [file_chs h, bits_chs h]
theorem mkS_app (a b : List Nat) : mkS a ++ mkS b = mkS (a ++ b) := by
  apply Str.ext'
  apply Array.toList_inj.mp
  rw [Str.cps_append, Array.toList_append]; rfl
theorem item_r {x : Int} (hx : x = 0 ∨ x = 1) : Txt.item (Str.ofString "-r") x = mkS [c2 114 x] := by rcases hx with rfl | rfl <;> decide
theorem item_w {x : Int} (hx : x = 0 ∨ x = 1) : Txt.item (Str.ofString "-w") x = mkS [c2 119 x] := by rcases hx with rfl | rfl <;> decide
theorem item_s {x y : Int} (hx : x = 0 ∨ x = 1) (hy : y = 0 ∨ y = 1) : Txt.item (tails.getD (x + 2 * 0).toNat (Str.ofString "-x")) y = mkS [c3 115 83 x y] := by rcases hx with rfl | rfl <;> rcases hy with rfl | rfl <;> decide
theorem item_t {x y : Int} (hx : x = 0 ∨ x = 1) (hy : y = 0 ∨ y = 1) : Txt.item (tails.getD (x + 2 * 1).toNat (Str.ofString "-x")) y = mkS [c3 116 84 x y] := by rcases hx with rfl | rfl <;> rcases hy with rfl | rfl <;> decide
theorem item_k {k : Int} (h : k ∈ ([8, 4, 10, 12, 6, 2, 1] : List Int)) : Txt.item (Str.ofString "?pc?d?b?-?l?s???") k = mkS [kc k] := by
  revert h
  revert k
  decide +kernel
theorem row_part {n p r x y z s t : Int} (hr : r3 n p = 4 * x + 2 * y + z) (hx : x = 0 ∨ x = 1) (hy : y = 0 ∨ y = 1) (hz : z = 0 ∨ z = 1) : rowA n p = mkS [c2 114 x, c2 119 y] ∧ (r3 n p).fmod 2 = z := by
  unfold rowA
  rw [hr, Int.fdiv_eq_ediv_of_nonneg _ (by decide), Int.fdiv_eq_ediv_of_nonneg _ (by decide), Int.fmod_eq_emod_of_nonneg _ (by decide), Int.fmod_eq_emod_of_nonneg _ (by decide)]
  rw [show (4 * x + 2 * y + z) / 4 = x from by omega, show (4 * x + 2 * y + z) / 2 % 2 = y from by omega, item_r hx, item_w hy, mkS_app]
  exact ⟨rfl, by omega⟩
theorem rp0 (p k : Int) : p / 64 % 8 = 4 * ((k * 4096 + p) / 256 % 2) + 2 * ((k * 4096 + p) / 128 % 2) + (k * 4096 + p) / 64 % 2 := by
  rw [show (k * 4096 + p) / 256 % 2 = p / 256 % 2 from gen k p 256 8 (by decide) rfl, show (k * 4096 + p) / 128 % 2 = p / 128 % 2 from gen k p 128 16 (by decide) rfl, show (k * 4096 + p) / 64 % 2 = p / 64 % 2 from gen k p 64 32 (by decide) rfl, show p / 256 = p / 64 / 4 from dd p 64 4 (by decide), show p / 128 = p / 64 / 2 from dd p 64 2 (by decide)]
  exact three _
theorem rp1 (p k : Int) : p / 8 % 8 = 4 * ((k * 4096 + p) / 32 % 2) + 2 * ((k * 4096 + p) / 16 % 2) + (k * 4096 + p) / 8 % 2 := by
  rw [show (k * 4096 + p) / 32 % 2 = p / 32 % 2 from gen k p 32 64 (by decide) rfl, show (k * 4096 + p) / 16 % 2 = p / 16 % 2 from gen k p 16 128 (by decide) rfl, show (k * 4096 + p) / 8 % 2 = p / 8 % 2 from gen k p 8 256 (by decide) rfl, show p / 32 = p / 8 / 4 from dd p 8 4 (by decide), show p / 16 = p / 8 / 2 from dd p 8 2 (by decide)]
  exact three _
theorem rp2 (p k : Int) : p % 8 = 4 * ((k * 4096 + p) / 4 % 2) + 2 * ((k * 4096 + p) / 2 % 2) + (k * 4096 + p) % 2 := by
  rw [show (k * 4096 + p) / 4 % 2 = p / 4 % 2 from gen k p 4 512 (by decide) rfl, show (k * 4096 + p) / 2 % 2 = p / 2 % 2 from gen k p 2 1024 (by decide) rfl, show (k * 4096 + p) % 2 = p % 2 from by omega]
  exact three _
theorem rq0 (p k : Int) (h0 : 0 ≤ p) (h1 : p < 4096) : p / 512 / 4 % 2 = (k * 4096 + p) / 2048 % 2 := by
  rw [show (k * 4096 + p) / 2048 % 2 = p / 2048 % 2 from gen k p 2048 1 (by decide) rfl, show p / 2048 = p / 512 / 4 from dd p 512 4 (by decide)]
theorem rq1 (p k : Int) (h0 : 0 ≤ p) (h1 : p < 4096) : p / 512 / 2 % 2 = (k * 4096 + p) / 1024 % 2 := by
  rw [show (k * 4096 + p) / 1024 % 2 = p / 1024 % 2 from gen k p 1024 2 (by decide) rfl, show p / 1024 = p / 512 / 2 from dd p 512 2 (by decide)]
theorem rq2 (p k : Int) (h0 : 0 ≤ p) (h1 : p < 4096) : p / 512 % 2 = (k * 4096 + p) / 512 % 2 := (show (k * 4096 + p) / 512 % 2 = p / 512 % 2 from gen k p 512 4 (by decide) rfl).symm
theorem row_num {m : Int} (h : Good m) : rowOf (num m) = mkS (chs m) := by
  have hk := item_k h.kind
  have hg := h
  have b := xb_b m
  obtain ⟨k, p, hkm, h0, h1, rfl⟩ := h
  have hk2 : ∀ k ∈ ([8, 4, 10, 12, 6, 2, 1] : List Int), 0 ≤ k ∧ k < 16 := by decide
  have hk3 := hk2 k hkm
  have hd : (k * 4096 + p) / 4096 = k := by omega
  have hn := num_p hg h0 h1
  have n0 : (num (k * 4096 + p)).fmod 16 = (k * 4096 + p) / 4096 := by
    rw [hn, hd, Int.fmod_eq_emod_of_nonneg _ (by decide)]; omega
  have n16 : (num (k * 4096 + p)).fdiv 16 = p := by
    rw [hn, Int.fdiv_eq_ediv_of_nonneg _ (by decide)]; omega
  have n8 : (num (k * 4096 + p)).fdiv 8192 = p / 512 := by
    rw [hn, Int.fdiv_eq_ediv_of_nonneg _ (by decide)]; omega
  clear hd hk2
  have p0 : r3 (num (k * 4096 + p)) 0 = 4 * xb (k * 4096 + p) 8 + 2 * xb (k * 4096 + p) 7 + xb (k * 4096 + p) 6 := by
    unfold r3
    rw [n16, show (8 : Int) ^ (2 - 0 : Int).toNat = 64 from rfl, Int.fdiv_eq_ediv_of_nonneg _ (by decide), Int.fmod_eq_emod_of_nonneg _ (by decide)]
    exact rp0 p k
  have p1 : r3 (num (k * 4096 + p)) 1 = 4 * xb (k * 4096 + p) 5 + 2 * xb (k * 4096 + p) 4 + xb (k * 4096 + p) 3 := by
    unfold r3
    rw [n16, show (8 : Int) ^ (2 - 1 : Int).toNat = 8 from rfl, Int.fdiv_eq_ediv_of_nonneg _ (by decide), Int.fmod_eq_emod_of_nonneg _ (by decide)]
    exact rp1 p k
  have p2 : r3 (num (k * 4096 + p)) 2 = 4 * xb (k * 4096 + p) 2 + 2 * xb (k * 4096 + p) 1 + xb (k * 4096 + p) 0 := by
    unfold r3
    rw [n16, show (8 : Int) ^ (2 - 2 : Int).toNat = 1 from rfl, Int.fdiv_eq_ediv_of_nonneg _ (by decide), Int.fmod_eq_emod_of_nonneg _ (by decide)]
    rw [Int.ediv_one]; exact (rp2 p k).trans (by rw [show xb (k * 4096 + p) 0 = (k * 4096 + p) / 1 % 2 from rfl, Int.ediv_one]; rfl)
  have q0 : r2 (num (k * 4096 + p)) 0 = xb (k * 4096 + p) 11 := by
    unfold r2
    rw [n8, show (2 : Int) ^ (2 - 0 : Int).toNat = 4 from rfl, Int.fdiv_eq_ediv_of_nonneg _ (by decide), Int.fmod_eq_emod_of_nonneg _ (by decide)]
    exact rq0 p k h0 h1
  have q1 : r2 (num (k * 4096 + p)) 1 = xb (k * 4096 + p) 10 := by
    unfold r2
    rw [n8, show (2 : Int) ^ (2 - 1 : Int).toNat = 2 from rfl, Int.fdiv_eq_ediv_of_nonneg _ (by decide), Int.fmod_eq_emod_of_nonneg _ (by decide)]
    exact rq1 p k h0 h1
  have q2 : r2 (num (k * 4096 + p)) 2 = xb (k * 4096 + p) 9 := by
    unfold r2
    rw [n8, show (2 : Int) ^ (2 - 2 : Int).toNat = 1 from rfl, Int.fdiv_eq_ediv_of_nonneg _ (by decide), Int.fmod_eq_emod_of_nonneg _ (by decide)]
    rw [Int.ediv_one]; exact rq2 p k h0 h1
  have a0 := row_part (r := 0) (s := 0) (t := 0) p0 (b 8) (b 7) (b 6)
  have a1 := row_part (r := 0) (s := 0) (t := 0) p1 (b 5) (b 4) (b 3)
  have a2 := row_part (r := 0) (s := 0) (t := 0) p2 (b 2) (b 1) (b 0)
  have z0 : rowB (num (k * 4096 + p)) 0 = mkS [c3 115 83 (xb (k * 4096 + p) 11) (xb (k * 4096 + p) 6)] := by
    unfold rowB
    rw [q0, a0.2]; exact item_s (b 11) (b 6)
  have z1 : rowB (num (k * 4096 + p)) 1 = mkS [c3 115 83 (xb (k * 4096 + p) 10) (xb (k * 4096 + p) 3)] := by
    unfold rowB
    rw [q1, a1.2]; exact item_s (b 10) (b 3)
  have z2 : rowB (num (k * 4096 + p)) 2 = mkS [c3 116 84 (xb (k * 4096 + p) 9) (xb (k * 4096 + p) 0)] := by
    unfold rowB
    rw [q2, a2.2]; exact item_t (b 9) (b 0)
  unfold rowOf
  rw [n0, hk]
  show (rowStep (num (k * 4096 + p)) (rowStep (num (k * 4096 + p)) (rowStep (num (k * 4096 + p)) (mkS [kc ((k * 4096 + p) / 4096)]) 0) 1) 2) = _
  unfold rowStep
  rw [a0.1, a1.1, a2.1, z0, z1, z2]
  simp only [mkS_app]
  rfl
theorem row_file {m : Int} (h : Good m) : rowOf (num m) = fileOf m := by rw [row_num h, file_chs h]
end Mine
end
section
open PySem PySem.W PyProof.Rows
set_option Elab.async false
set_option maxRecDepth 100000
set_option linter.unusedVariables false
namespace Mine
/-- the sixes of sixteen-bit numbers -/
noncomputable def sixes : List Int → List Int
  | [] => []
  | [a] => [a / 1024, a / 16 % 64, a % 16 * 4]
  | [a, b] => [a / 1024, a / 16 % 64, a % 16 * 4 + b / 16384, b / 256 % 64, b / 4 % 64, b % 4 * 16]
  | a :: b :: c :: t => a / 1024 :: a / 16 % 64 :: (a % 16 * 4 + b / 16384) :: b / 256 % 64 :: b / 4 % 64 :: (b % 4 * 16 + c / 4096) :: c / 64 % 64 :: c % 64 :: sixes t
noncomputable def pads : List Int → List Int
  | [] => []
  | [a] => [61]
  | [a, b] => [61, 61]
  | a :: b :: c :: t => pads t
noncomputable def InW (ns : List Int) : Prop := ∀ n ∈ ns, 0 ≤ n ∧ n < 65536
theorem em (x : Int) {m : Int} (h : 0 < m) : 0 ≤ x % m ∧ x % m < m := ⟨Int.emod_nonneg _ (Int.ne_of_gt h), Int.emod_lt_of_pos _ h⟩
theorem r_a {a : Int} (h : 0 ≤ a ∧ a < 65536) : 0 ≤ a / 1024 ∧ a / 1024 < 64 := by omega
theorem r_c (a : Int) {t : Int} (h : 0 ≤ t ∧ t < 4) : 0 ≤ a % 16 * 4 + t ∧ a % 16 * 4 + t < 64 := by
  have := em a (m := 16) (by decide)
  generalize a % 16 = z at this ⊢
  omega
theorem r_f (b : Int) {t : Int} (h : 0 ≤ t ∧ t < 16) : 0 ≤ b % 4 * 16 + t ∧ b % 4 * 16 + t < 64 := by
  have := em b (m := 4) (by decide)
  generalize b % 4 = z at this ⊢
  omega
theorem r_c0 (a : Int) : 0 ≤ a % 16 * 4 ∧ a % 16 * 4 < 64 := by
  have := r_c a (t := 0) (by decide)
  rwa [Int.add_zero] at this
theorem r_f0 (b : Int) : 0 ≤ b % 4 * 16 ∧ b % 4 * 16 < 64 := by
  have := r_f b (t := 0) (by decide)
  rwa [Int.add_zero] at this
theorem b4t {b : Int} (h : 0 ≤ b ∧ b < 65536) : 0 ≤ b / 16384 ∧ b / 16384 < 4 := by omega
theorem b16t {c : Int} (h : 0 ≤ c ∧ c < 65536) : 0 ≤ c / 4096 ∧ c / 4096 < 16 := by omega
theorem sixes_b : ∀ ns : List Int, InW ns → ∀ v ∈ sixes ns, 0 ≤ v ∧ v < 64
  | [], _, v, hv => by cases hv
  | [a], h, v, hv => by
    have ha := h a (.head _)
    rcases List.mem_cons.mp hv with rfl | hv
    · exact r_a ha
    rcases List.mem_cons.mp hv with rfl | hv
    · exact em _ (by decide)
    rcases List.mem_cons.mp hv with rfl | hv
    · exact r_c0 a
    cases hv
  | [a, b], h, v, hv => by
    have ha := h a (.head _)
    have hb := h b (.tail _ (.head _))
    rcases List.mem_cons.mp hv with rfl | hv
    · exact r_a ha
    rcases List.mem_cons.mp hv with rfl | hv
    · exact em _ (by decide)
    rcases List.mem_cons.mp hv with rfl | hv
    · exact r_c a (b4t hb)
    rcases List.mem_cons.mp hv with rfl | hv
    · exact em _ (by decide)
    rcases List.mem_cons.mp hv with rfl | hv
    · exact em _ (by decide)
    rcases List.mem_cons.mp hv with rfl | hv
    · exact r_f0 b
    cases hv
  | a :: b :: c :: t, h, v, hv => by
    have ha := h a (.head _)
    have hb := h b (.tail _ (.head _))
    have hc := h c (.tail _ (.tail _ (.head _)))
    rcases List.mem_cons.mp hv with rfl | hv
    · exact r_a ha
    rcases List.mem_cons.mp hv with rfl | hv
    · exact em _ (by decide)
    rcases List.mem_cons.mp hv with rfl | hv
    · exact r_c a (b4t hb)
    rcases List.mem_cons.mp hv with rfl | hv
    · exact em _ (by decide)
    rcases List.mem_cons.mp hv with rfl | hv
    · exact em _ (by decide)
    rcases List.mem_cons.mp hv with rfl | hv
    · exact r_f b (b16t hc)
    rcases List.mem_cons.mp hv with rfl | hv
    · exact em _ (by decide)
    rcases List.mem_cons.mp hv with rfl | hv
    · exact em _ (by decide)
    exact sixes_b t (fun n hn => h n (.tail _ (.tail _ (.tail _ hn)))) v hv
/-- octets of numbers -/
noncomputable def bys (ns : List Int) : List Int := ns.flatMap fun n => [n / 256, n % 256]
theorem dg_mod (c : Int) : dg c = dg (c % 64) := by
  unfold dg
  rw [show c % 64 % 64 = c % 64 from by omega]
theorem dg_cong {a b : Int} (h : a % 64 = b % 64) : dg a = dg b := by rw [dg_mod a, dg_mod b, h]
theorem enc0 {b : Int} {t : List Int} (lc : Int) : enc (b :: t) lc 0 = dg (encC lc b / 4) :: enc t (encC lc b) 2 := by
  rw [enc, if_neg (by decide), if_neg (by decide)]
theorem enc2 {b : Int} {t : List Int} (lc : Int) : enc (b :: t) lc 2 = dg (encC lc b / 16) :: enc t (encC lc b) 4 := by
  rw [enc, if_neg (by decide), if_pos rfl]
theorem enc4 {b : Int} {t : List Int} (lc : Int) : enc (b :: t) lc 4 = dg (encC lc b / 64) :: dg (encC lc b) :: enc t (encC lc b) 0 := by
  rw [enc, if_pos rfl]
theorem encA {l a : Int} (ha : 0 ≤ a ∧ a < 65536) (h : l % 256 = a / 256) : encC l (a % 256) = a := by unfold encC; omega
theorem encB {l a : Int} (ha : 0 ≤ a ∧ a < 65536) : encC l (a / 256) % 256 = a / 256 := by unfold encC; omega
theorem enc_a {l a : Int} (ha : 0 ≤ a ∧ a < 65536) : dg (encC l (a / 256) / 4) = dg (a / 1024) := dg_cong (by unfold encC; omega)
theorem enc_b (a : Int) : dg (a / 16) = dg (a / 16 % 64) := dg_mod _
theorem enc_c {a b : Int} (hb : 0 ≤ b ∧ b < 65536) : dg (encC a (b / 256) / 64) = dg (a % 16 * 4 + b / 16384) := dg_cong (by
  rw [show b / 16384 = b / 256 / 64 from dd b 256 64 (by decide)]
  unfold encC; omega)
theorem enc_d {a b : Int} (hb : 0 ≤ b ∧ b < 65536) : dg (encC a (b / 256)) = dg (b / 256 % 64) := dg_cong (by unfold encC; omega)
theorem enc_e (b : Int) : dg (b / 4) = dg (b / 4 % 64) := dg_mod _
theorem enc_f {b c : Int} (hc : 0 ≤ c ∧ c < 65536) : dg (encC b (c / 256) / 16) = dg (b % 4 * 16 + c / 4096) := dg_cong (by
  rw [show c / 4096 = c / 256 / 16 from dd c 256 16 (by decide)]
  unfold encC; omega)
theorem enc_g (c : Int) : dg (c / 64) = dg (c / 64 % 64) := dg_mod _
theorem enc_h (c : Int) : dg c = dg (c % 64) := dg_mod _
theorem enc_sixes : ∀ (ns : List Int) (lc : Int), InW ns → enc (bys ns) lc 0 = (sixes ns).map dg ++ pads ns
  | [], lc, _ => by
    show enc [] lc 0 = _
    rw [enc, if_neg (by decide), if_neg (by decide)]; rfl
  | [a], lc, h => by
    have ha := h a (.head _)
    show enc [a / 256, a % 256] lc 0 = [dg (a / 1024), dg (a / 16 % 64), dg (a % 16 * 4), 61]
    rw [enc0, enc2, encA ha (encB ha), enc_a ha, enc_b, enc, if_neg (by decide), if_pos rfl]
  | [a, b], lc, h => by
    have ha := h a (.head _)
    have hb := h b (.tail _ (.head _))
    show enc [a / 256, a % 256, b / 256, b % 256] lc 0 = [dg (a / 1024), dg (a / 16 % 64), dg (a % 16 * 4 + b / 16384), dg (b / 256 % 64), dg (b / 4 % 64), dg (b % 4 * 16), 61, 61]
    rw [enc0, enc2, encA ha (encB ha), enc_a ha, enc_b, enc4, enc_c hb, enc_d hb, enc0, encA hb (encB hb), enc_e, enc, if_pos rfl]
  | a :: b :: c :: t, lc, h => by
    have ha := h a (.head _)
    have hb := h b (.tail _ (.head _))
    have hc := h c (.tail _ (.tail _ (.head _)))
    have ih := fun lc => enc_sixes t lc (fun n hn => h n (.tail _ (.tail _ (.tail _ hn))))
    show enc (a / 256 :: a % 256 :: b / 256 :: b % 256 :: c / 256 :: c % 256 :: bys t) lc 0 = dg (a / 1024) :: dg (a / 16 % 64) :: dg (a % 16 * 4 + b / 16384) :: dg (b / 256 % 64) :: dg (b / 4 % 64) :: dg (b % 4 * 16 + c / 4096) :: dg (c / 64 % 64) :: dg (c % 64) :: ((sixes t).map dg ++ pads t)
    rw [enc0, enc2, encA ha (encB ha), enc_a ha, enc_b, enc4, enc_c hb, enc_d hb, enc0, encA hb (encB hb), enc_e, enc2, enc_f hc, enc4, encA hc (encB hc), enc_g, ih, enc_h c]
end Mine
end
section
open PySem PySem.W PyProof.Rows
set_option Elab.async false
set_option maxRecDepth 100000
set_option linter.unusedVariables false
namespace Mine
theorem dg_nat : ∀ n : Nat, n < 64 → b64val (dg (n : Int)) = n ∧ dg (n : Int) ≠ 61 := by decide +kernel
theorem dg_val {v : Int} (h : 0 ≤ v ∧ v < 64) : b64val (dg v) = v ∧ dg v ≠ 61 := by
  have := dg_nat v.toNat (by omega)
  rw [Int.toNat_of_nonneg h.1] at this
  exact this
theorem dec0 {v lc : Int} {cs acc : List Int} (h : 0 ≤ v ∧ v < 64) : dec (dg v :: cs) 0 lc 0 acc = dec cs 1 v 0 acc := by
  obtain ⟨e, n⟩ := dg_val h
  rw [dec, if_neg n, e, if_neg (by omega), if_neg (by decide), if_pos rfl]
theorem dec1 {v lc : Int} {cs acc : List Int} (h : 0 ≤ v ∧ v < 64) : dec (dg v :: cs) 1 lc 0 acc = dec cs 2 (v % 16) 0 (acc ++ [lc * 4 + v / 16]) := by
  obtain ⟨e, n⟩ := dg_val h
  rw [dec, if_neg n, e, if_neg (by omega), if_neg (by decide), if_neg (by decide), if_pos rfl]
theorem dec2 {v lc : Int} {cs acc : List Int} (h : 0 ≤ v ∧ v < 64) : dec (dg v :: cs) 2 lc 0 acc = dec cs 3 (v % 4) 0 (acc ++ [lc * 16 + v / 4]) := by
  obtain ⟨e, n⟩ := dg_val h
  rw [dec, if_neg n, e, if_neg (by omega), if_neg (by decide), if_neg (by decide), if_neg (by decide), if_pos rfl]
theorem dec3 {v lc : Int} {cs acc : List Int} (h : 0 ≤ v ∧ v < 64) : dec (dg v :: cs) 3 lc 0 acc = dec cs 0 0 0 (acc ++ [lc * 64 + v]) := by
  obtain ⟨e, n⟩ := dg_val h
  rw [dec, if_neg n, e, if_neg (by omega), if_neg (by decide), if_neg (by decide), if_neg (by decide), if_neg (by decide)]
theorem dec_nil0 {lc : Int} {acc : List Int} : dec [] 0 lc 0 acc = some acc := by
  rw [dec, if_neg (by decide), if_neg (by decide)]
theorem dec_pad1 {lc : Int} {acc : List Int} : dec [61] 3 lc 0 acc = some acc := by
  rw [dec, if_pos rfl, if_pos (by decide), dec, if_neg (by decide), if_neg (by decide)]
theorem dec_pad2 {lc : Int} {acc : List Int} : dec [61, 61] 2 lc 0 acc = some acc := by
  rw [dec, if_pos rfl, if_pos (by decide), dec, if_pos rfl, if_pos (by decide), dec, if_neg (by decide), if_neg (by decide)]
theorem dA (a : Int) : a / 1024 * 4 + a / 16 % 64 / 16 = a / 256 := by
  rw [show a / 1024 = a / 16 / 64 from dd a 16 64 (by decide), show a / 256 = a / 16 / 16 from dd a 16 16 (by decide)]
  generalize a / 16 = z
  omega
theorem dB {a t : Int} (h : 0 ≤ t ∧ t < 4) : a / 16 % 64 % 16 * 16 + (a % 16 * 4 + t) / 4 = a % 256 := by
  rw [show (a % 16 * 4 + t) / 4 = a % 16 from by omega]
  omega
theorem dB0 (a : Int) : a / 16 % 64 % 16 * 16 + a % 16 * 4 / 4 = a % 256 := by
  have := dB (a := a) (t := 0) (by decide)
  rwa [Int.add_zero] at this
theorem dC (a b : Int) (h : 0 ≤ b ∧ b < 65536) : (a % 16 * 4 + b / 16384) % 4 * 64 + b / 256 % 64 = b / 256 := by
  rw [show b / 16384 = b / 256 / 64 from dd b 256 64 (by decide)]
  have : 0 ≤ b / 256 ∧ b / 256 < 256 := by omega
  generalize b / 256 = z at this
  omega
theorem dD {b t : Int} (h : 0 ≤ t ∧ t < 16) : b / 4 % 64 * 4 + (b % 4 * 16 + t) / 16 = b % 256 := by
  rw [show (b % 4 * 16 + t) / 16 = b % 4 from by omega]
  omega
theorem dD0 (b : Int) : b / 4 % 64 * 4 + b % 4 * 16 / 16 = b % 256 := by
  have := dD (b := b) (t := 0) (by decide)
  rwa [Int.add_zero] at this
theorem dE (b c : Int) (h : 0 ≤ c ∧ c < 65536) : (b % 4 * 16 + c / 4096) % 16 * 16 + c / 64 % 64 / 4 = c / 256 := by
  rw [show c / 4096 = c / 64 / 64 from dd c 64 64 (by decide), show c / 256 = c / 64 / 4 from dd c 64 4 (by decide)]
  have : 0 ≤ c / 64 ∧ c / 64 < 1024 := by omega
  generalize c / 64 = z at this
  omega
theorem dF (c : Int) : c / 64 % 64 % 4 * 64 + c % 64 = c % 256 := by omega
theorem dec_sixes : ∀ (ns acc : List Int), InW ns → dec ((sixes ns).map dg ++ pads ns) 0 0 0 acc = some (acc ++ bys ns)
  | [], acc, _ => by
    show dec [] 0 0 0 acc = some (acc ++ [])
    rw [dec_nil0, List.append_nil]
  | [a], acc, h => by
    have hv := sixes_b _ h
    show dec [dg (a / 1024), dg (a / 16 % 64), dg (a % 16 * 4), 61] 0 0 0 acc = some (acc ++ [a / 256, a % 256])
    rw [dec0 (hv _ (.head _)), dec1 (hv _ (.tail _ (.head _))), dec2 (hv _ (.tail _ (.tail _ (.head _)))), dec_pad1, dA, dB0, List.append_assoc]
    rfl
  | [a, b], acc, h => by
    have hb := h b (.tail _ (.head _))
    have hv := sixes_b _ h
    show dec [dg (a / 1024), dg (a / 16 % 64), dg (a % 16 * 4 + b / 16384), dg (b / 256 % 64), dg (b / 4 % 64), dg (b % 4 * 16), 61, 61] 0 0 0 acc = some (acc ++ [a / 256, a % 256, b / 256, b % 256])
    rw [dec0 (hv _ (.head _)), dec1 (hv _ (.tail _ (.head _))), dec2 (hv _ (.tail _ (.tail _ (.head _)))), dec3 (hv _ (.tail _ (.tail _ (.tail _ (.head _))))), dec0 (hv _ (.tail _ (.tail _ (.tail _ (.tail _ (.head _)))))), dec1 (hv _ (.tail _ (.tail _ (.tail _ (.tail _ (.tail _ (.head _))))))), dec_pad2,
      dA, dB (b4t hb), dC a b hb, dD0, List.append_assoc, List.append_assoc, List.append_assoc]
    rfl
  | a :: b :: c :: t, acc, h => by
    have hb := h b (.tail _ (.head _))
    have hc := h c (.tail _ (.tail _ (.head _)))
    have ih := fun acc => dec_sixes t acc (fun n hn => h n (.tail _ (.tail _ (.tail _ hn))))
    have hv := sixes_b _ h
    show dec (dg (a / 1024) :: dg (a / 16 % 64) :: dg (a % 16 * 4 + b / 16384) :: dg (b / 256 % 64) :: dg (b / 4 % 64) :: dg (b % 4 * 16 + c / 4096) :: dg (c / 64 % 64) :: dg (c % 64) :: ((sixes t).map dg ++ pads t)) 0 0 0 acc = some (acc ++ (a / 256 :: a % 256 :: b / 256 :: b % 256 :: c / 256 :: c % 256 :: bys t))
    rw [dec0 (hv _ (.head _)), dec1 (hv _ (.tail _ (.head _))), dec2 (hv _ (.tail _ (.tail _ (.head _)))), dec3 (hv _ (.tail _ (.tail _ (.tail _ (.head _))))), dec0 (hv _ (.tail _ (.tail _ (.tail _ (.tail _ (.head _)))))), dec1 (hv _ (.tail _ (.tail _ (.tail _ (.tail _ (.tail _ (.head _))))))),
      dec2 (hv _ (.tail _ (.tail _ (.tail _ (.tail _ (.tail _ (.tail _ (.head _)))))))), dec3 (hv _ (.tail _ (.tail _ (.tail _ (.tail _ (.tail _ (.tail _ (.tail _ (.head _))))))))), ih,
      dA, dB (b4t hb), dC a b hb, dD (b16t hc), dE b c hc, dF, List.append_assoc, List.append_assoc, List.append_assoc, List.append_assoc, List.append_assoc, List.append_assoc]
    rfl
/-- the worths of the sixes of bits -/
noncomputable def wor (bits : List Int) : List Int := (List.range ((bits.length + 5) / 6)).map fun i => worthOf ((bits.drop (6 * i)).take 6)
noncomputable def lb (ns : List Int) : List Int := ns.flatMap b16
theorem wor_step (p q r : Int) (t : List Int) : wor (b16 p ++ b16 q ++ b16 r ++ t) = wor (b16 p ++ b16 q ++ b16 r) ++ wor t := by
  unfold wor
  have hl : (b16 p ++ b16 q ++ b16 r).length = 48 := rfl
  generalize b16 p ++ b16 q ++ b16 r = b at hl
  rw [List.length_append, hl, show (48 + t.length + 5) / 6 = 8 + (t.length + 5) / 6 from by omega, show (48 + 5) / 6 = 8 from rfl, List.range_add, List.map_append]
  congr 1
  · refine List.map_congr_left fun i hi => ?_
    have := List.mem_range.mp hi
    rw [List.drop_append_of_le_length (by omega), List.take_append_of_le_length (by rw [List.length_drop]; omega)]
  · rw [List.map_map]
    refine List.map_congr_left fun i hi => ?_
    show worthOf ((List.drop (6 * (8 + i)) (b ++ t)).take 6) = _
    rw [List.drop_append, List.drop_eq_nil_of_le (by omega), hl, List.nil_append, show 6 * (8 + i) - 48 = 6 * i from by omega]
theorem wor_of {bits : List Int} {n k : Nat} (h : bits.length = n) (hk : (n + 5) / 6 = k) : wor bits = (List.range k).map fun i => worthOf ((bits.drop (6 * i)).take 6) := by
  unfold wor; rw [h, hk]
theorem wor_sixes : ∀ ns : List Int, InW ns → wor (lb ns) = sixes ns
  | [], _ => rfl
  | [a], h => by
    have ha := h a (.head _)
    rw [wor_of (bits := lb [a]) (n := 16) (k := 3) rfl rfl]
    show [w6 (a / 32768 % 2) (a / 16384 % 2) (a / 8192 % 2) (a / 4096 % 2) (a / 2048 % 2) (a / 1024 % 2), w6 (a / 512 % 2) (a / 256 % 2) (a / 128 % 2) (a / 64 % 2) (a / 32 % 2) (a / 16 % 2), w6 (a / 8 % 2) (a / 4 % 2) (a / 2 % 2) (a % 2) 0 0] = [a / 1024, a / 16 % 64, a % 16 * 4]
    rw [wA, wB, wC0, show a / 1024 % 64 = a / 1024 from by omega]
  | [a, b], h => by
    have ha := h a (.head _)
    have hb := h b (.tail _ (.head _))
    rw [wor_of (bits := lb [a, b]) (n := 32) (k := 6) rfl rfl]
    show [w6 (a / 32768 % 2) (a / 16384 % 2) (a / 8192 % 2) (a / 4096 % 2) (a / 2048 % 2) (a / 1024 % 2), w6 (a / 512 % 2) (a / 256 % 2) (a / 128 % 2) (a / 64 % 2) (a / 32 % 2) (a / 16 % 2), w6 (a / 8 % 2) (a / 4 % 2) (a / 2 % 2) (a % 2) (b / 32768 % 2) (b / 16384 % 2),
      w6 (b / 8192 % 2) (b / 4096 % 2) (b / 2048 % 2) (b / 1024 % 2) (b / 512 % 2) (b / 256 % 2), w6 (b / 128 % 2) (b / 64 % 2) (b / 32 % 2) (b / 16 % 2) (b / 8 % 2) (b / 4 % 2), w6 (b / 2 % 2) (b % 2) 0 0 0 0] = [a / 1024, a / 16 % 64, a % 16 * 4 + b / 16384, b / 256 % 64, b / 4 % 64, b % 4 * 16]
    rw [wA, wB, wC, wD, wE, wF0, show a / 1024 % 64 = a / 1024 from by omega, show b / 16384 % 4 = b / 16384 from by omega]
  | a :: b :: c :: t, h => by
    have ha := h a (.head _)
    have hb := h b (.tail _ (.head _))
    have hc := h c (.tail _ (.tail _ (.head _)))
    have ih := wor_sixes t (fun n hn => h n (.tail _ (.tail _ (.tail _ hn))))
    have e : lb (a :: b :: c :: t) = b16 a ++ b16 b ++ b16 c ++ lb t := by simp [lb]
    rw [e, wor_step, ih, wor_of (bits := b16 a ++ b16 b ++ b16 c) (n := 48) (k := 8) rfl rfl]
    show [w6 (a / 32768 % 2) (a / 16384 % 2) (a / 8192 % 2) (a / 4096 % 2) (a / 2048 % 2) (a / 1024 % 2), w6 (a / 512 % 2) (a / 256 % 2) (a / 128 % 2) (a / 64 % 2) (a / 32 % 2) (a / 16 % 2), w6 (a / 8 % 2) (a / 4 % 2) (a / 2 % 2) (a % 2) (b / 32768 % 2) (b / 16384 % 2),
      w6 (b / 8192 % 2) (b / 4096 % 2) (b / 2048 % 2) (b / 1024 % 2) (b / 512 % 2) (b / 256 % 2), w6 (b / 128 % 2) (b / 64 % 2) (b / 32 % 2) (b / 16 % 2) (b / 8 % 2) (b / 4 % 2), w6 (b / 2 % 2) (b % 2) (c / 32768 % 2) (c / 16384 % 2) (c / 8192 % 2) (c / 4096 % 2),
      w6 (c / 2048 % 2) (c / 1024 % 2) (c / 512 % 2) (c / 256 % 2) (c / 128 % 2) (c / 64 % 2), w6 (c / 32 % 2) (c / 16 % 2) (c / 8 % 2) (c / 4 % 2) (c / 2 % 2) (c % 2)] ++ sixes t = _
    rw [wA, wB, wC, wD, wE, wF, wG, w6z, show a / 1024 % 64 = a / 1024 from by omega, show b / 16384 % 4 = b / 16384 from by omega, show c / 4096 % 16 = c / 4096 from by omega]
    rfl
end Mine
end
section
open PySem PySem.W PyProof.Rows
set_option Elab.async false
set_option maxRecDepth 100000
set_option linter.unusedVariables false
namespace Mine
theorem beq_one (c d : Nat) : (mkS [c] == mkS [d]) = (c == d) := by
  rw [Bool.eq_iff_iff, beq_iff_eq, beq_iff_eq]
  constructor
  · intro h
    have : (mkS [c]).cps.toList = (mkS [d]).cps.toList := by rw [h]
    simpa [mkS] using this
  · rintro rfl; rfl
theorem isEnd_one (c : Nat) : isEnd (mkS [c]) = isNl c := by
  unfold isEnd isNl
  rw [show Str.ofString "\r" = mkS [13] from rfl, show Str.ofString "\n" = mkS [10] from rfl, beq_one, beq_one, Bool.or_comm]
noncomputable def pc (c : Nat) (fr : Bool) : List Nat := if isNl c = true then [13, 10] else if (c == 46 && fr) = true then [46, 46] else [c]
theorem piece_one (c : Nat) (fr : Bool) : piece (mkS [c]) fr = mkS (pc c fr) := by
  unfold piece pc
  rw [isEnd_one, show Str.ofString "." = mkS [46] from rfl, beq_one]
  split
  · rfl
  · split <;> rfl
theorem wire_cons (c : Nat) (cs : List Nat) (fr : Bool) : wire (c :: cs) fr = pc c fr ++ wire cs (isNl c) := rfl
noncomputable def stepW (L : Str) (m : Str × Bool × Int) (v : Int) : Str × Bool × Int := (m.1 ++ piece (Txt.item L v) m.2.1, isEnd (Txt.item L v), m.2.2 + 1)
theorem mailEnd_wor (bits : List Int) (pair : Str) : mailEnd bits pair = (wor bits).foldl (stepW (let62 ++ pair)) (Str.ofString "", true, 0) := by
  unfold mailEnd wor rng
  rw [List.foldl_map, List.foldl_map]
  congr 1
  funext m i
  unfold mailStep stepW sixAt
  rw [show (0 + ((i : Nat) : Int) * 6).toNat = 6 * i from by omega]
theorem fold_wire {L : Str} {lt : Int → Nat} : ∀ (vs : List Int), (∀ v ∈ vs, Txt.item L v = mkS [lt v]) → ∀ (M : List Nat) (fr : Bool) (n : Int),
    ((vs.foldl (stepW L) (mkS M, fr, n)).1 = mkS (M ++ wire (vs.map lt) fr)) ∧ (vs.foldl (stepW L) (mkS M, fr, n)).2.2 = n + vs.length
  | [], _, M, fr, n => by
    refine ⟨?_, ?_⟩
    · show mkS M = mkS (M ++ [])
      rw [List.append_nil]
    · show n = n + 0
      omega
  | v :: vs, h, M, fr, n => by
    have hv := h v (.head _)
    have e : stepW L (mkS M, fr, n) v = (mkS (M ++ pc (lt v) fr), isNl (lt v), n + 1) := by
      unfold stepW
      rw [hv]
      dsimp only
      rw [piece_one, isEnd_one, mkS_app]
    rw [List.foldl_cons, e]
    obtain ⟨h1, h2⟩ := fold_wire vs (fun x hx => h x (.tail _ hx)) (M ++ pc (lt v) fr) (isNl (lt v)) (n + 1)
    refine ⟨?_, ?_⟩
    · rw [h1, List.map_cons, wire_cons, List.append_assoc]
    · rw [h2, List.length_cons]; omega
theorem pads_len : ∀ ns : List Int, (-((sixes ns).length : Int)).fmod 4 = ((pads ns).length : Int)
  | [] => rfl
  | [_] => rfl
  | [_, _] => by
    show (-((6 : Nat) : Int)).fmod 4 = ((2 : Nat) : Int)
    decide
  | a :: b :: c :: t => by
    have ih := pads_len t
    show (-(((sixes t).length + 1 + 1 + 1 + 1 + 1 + 1 + 1 + 1 : Nat) : Int)).fmod 4 = ((pads t).length : Int)
    rw [← ih, Int.fmod_eq_emod_of_nonneg _ (by decide), Int.fmod_eq_emod_of_nonneg _ (by decide)]
    omega
theorem pads_cases : ∀ ns : List Int, pads ns = [] ∨ pads ns = [61] ∨ pads ns = [61, 61]
  | [] => .inl rfl
  | [_] => .inr (.inl rfl)
  | [_, _] => .inr (.inr rfl)
  | _ :: _ :: _ :: t => pads_cases t
noncomputable def padN (ns : List Int) : List Nat := (pads ns).map Int.toNat
theorem pads_mul (ns : List Int) : Txt.mul (Str.ofString "=") ((pads ns).length : Int) = mkS (padN ns) := by
  unfold padN
  rcases pads_cases ns with h | h | h <;> rw [h] <;> decide +kernel
theorem padN_61 (ns : List Int) : ∀ c ∈ padN ns, c = 61 := by
  unfold padN
  rcases pads_cases ns with h | h | h <;> rw [h] <;> decide
/-- the text that is written -/
noncomputable def text (lt : Int → Nat) (ns : List Int) : List Nat := (sixes ns).map lt ++ padN ns
theorem wire_pads : ∀ (P : List Nat) (fr : Bool), (∀ c ∈ P, c = 61) → wire P fr = P
  | [], _, _ => rfl
  | c :: P, fr, h => by
    have hc := h c (.head _)
    subst hc
    rw [wire_cons, wire_pads P _ fun d hd => h d (.tail _ hd)]
    rfl
theorem wire_app : ∀ (T P : List Nat) (fr : Bool), (∀ c ∈ P, c = 61) → wire (T ++ P) fr = wire T fr ++ P
  | [], P, fr, h => wire_pads P fr h
  | c :: T, P, fr, h => by
    show pc c fr ++ wire (T ++ P) (isNl c) = pc c fr ++ wire T (isNl c) ++ P
    rw [wire_app T P _ h, List.append_assoc]
theorem mailOf_wire {ns : List Int} {pair : Str} {lt : Int → Nat} (h : InW ns) (hlt : ∀ v : Int, 0 ≤ v ∧ v < 64 → Txt.item (let62 ++ pair) v = mkS [lt v]) : mailOf (lb ns) pair = mkS (wire (text lt ns) true) := by
  unfold mailOf
  rw [mailEnd_wor, wor_sixes ns h]
  obtain ⟨h1, h2⟩ := fold_wire (sixes ns) (fun v hv => hlt v (sixes_b ns h v hv)) [] true 0
  rw [show Str.ofString "" = mkS [] from rfl, h1, h2, Int.zero_add, pads_len, pads_mul, mkS_app]
  unfold text
  rw [wire_app _ _ _ (padN_61 ns), List.nil_append]
/-- ends and dots on lists -/
theorem range_getD (l : List Nat) : (List.range l.length).map (fun i => l.getD i 0) = l := by
  apply List.ext_getElem
  · simp
  · intro i h1 h2
    simp [List.getD, h2]
noncomputable def nlE (c : Nat) : List Nat := if isNl c = true then [13, 10] else [c]
theorem arr_getD (T : Array Nat) (i : Nat) : T.getD i 0 = T.toList.getD i 0 := by
  simp [Array.getD_eq_getD_getElem?, List.getD]
theorem ends_list (T : List Nat) : ends (mkS T) = mkS (T.flatMap nlE) := by
  unfold ends subOut
  have hs : (mkS T).cps.size = T.length := by simp [mkS]
  rw [hs]
  show mkS _ = _
  congr 1
  have e : ∀ i, (if isCL (mkS T).cps i = true then crlf.cps.toList else [(mkS T).cps.getD i 0]) = nlE (T.getD i 0) := by
    intro i
    unfold isCL nlE isNl
    rw [arr_getD]
    rfl
  have e2 : (List.range' 0 (T.length - 0)).flatMap (fun i => if isCL (mkS T).cps i = true then crlf.cps.toList else [(mkS T).cps.getD i 0]) = (List.range T.length).flatMap fun i => nlE (T.getD i 0) := by
    rw [Nat.sub_zero, ← List.range_eq_range']
    congr 1
    funext i
    exact e i
  rw [e2]
  conv => rhs; rw [← range_getD T]
  rw [List.flatMap_map]
noncomputable def dotR : List Nat → Bool → List Nat
  | [], _ => []
  | c :: cs, fr => (if (fr && c == 46) = true then [46, 46] else [c]) ++ dotR cs (c == 10)
noncomputable def prevNL (pre : List Nat) : Bool := pre.length == 0 || pre.getD (pre.length - 1) 0 == 10
theorem dots_from (U : List Nat) : ∀ (l pre : List Nat), pre ++ l = U → (List.range' pre.length l.length).flatMap (fun i => if isDot (mkS U).cps i = true then [46, 46] else [U.getD i 0]) = dotR l (prevNL pre)
  | [], pre, _ => rfl
  | c :: cs, pre, h => by
    have ih := dots_from U cs (pre ++ [c]) (by rw [← h]; simp)
    rw [List.length_cons, List.range'_succ, List.flatMap_cons]
    have hl : (pre ++ [c]).length = pre.length + 1 := by simp
    rw [hl] at ih
    rw [ih]
    have hc : U.getD pre.length 0 = c := by rw [← h]; simp [List.getD]
    have hp : prevNL (pre ++ [c]) = (c == 10) := by
      unfold prevNL
      simp [List.getD]
    have hd : isDot (mkS U).cps pre.length = (prevNL pre && c == 46) := by
      unfold isDot prevNL
      rw [arr_getD, arr_getD]
      show ((pre.length == 0 || U.getD (pre.length - 1) 0 == 10) && U.getD pre.length 0 == 46) = _
      rw [hc]
      cases pre with
      | nil => rfl
      | cons x pre =>
        have : U.getD ((x :: pre).length - 1) 0 = (x :: pre).getD ((x :: pre).length - 1) 0 := by
          rw [← h]
          simp only [List.getD]
          rw [List.getElem?_append_left (by simp)]
        rw [this]
    rw [hd, hc, hp]
    rfl
theorem dots_list (U : List Nat) : dots (mkS U) = mkS (dotR U true) := by
  unfold dots subOut
  have hs : (mkS U).cps.size = U.length := by simp [mkS]
  rw [hs]
  show mkS _ = _
  congr 1
  have key := dots_from U U [] rfl
  have e : ∀ i, (if isDot (mkS U).cps i = true then (Str.ofString "..").cps.toList else [(mkS U).cps.getD i 0]) = (if isDot (mkS U).cps i = true then [46, 46] else [U.getD i 0]) := by
    intro i
    rw [arr_getD]
    rfl
  rw [Nat.sub_zero]
  refine Eq.trans ?_ key
  show List.flatMap _ (List.range' 0 U.length) = List.flatMap _ (List.range' 0 U.length)
  congr 1
  funext i
  exact e i
theorem dotR_wire : ∀ (T : List Nat) (fr : Bool), dotR (T.flatMap nlE) fr = wire T fr
  | [], _ => rfl
  | c :: T, fr => by
    rw [List.flatMap_cons, wire_cons]
    by_cases hc : isNl c = true
    · have e1 : nlE c = [13, 10] := by unfold nlE; rw [if_pos hc]
      have e2 : pc c fr = [13, 10] := by unfold pc; rw [if_pos hc]
      rw [e1, e2, hc, ← dotR_wire T true]
      cases fr <;> rfl
    · have hf : isNl c = false := by simpa using hc
      have e1 : nlE c = [c] := by unfold nlE; rw [if_neg hc]
      have e2 : pc c fr = if (fr && c == 46) = true then [46, 46] else [c] := by unfold pc; rw [if_neg hc, Bool.and_comm]
      have h10 : (c == 10) = false := by
        unfold isNl at hf
        rw [Bool.or_eq_false_iff] at hf
        exact hf.1
      rw [e1, e2, hf, ← dotR_wire T false]
      show (if (fr && c == 46) = true then [46, 46] else [c]) ++ dotR (T.flatMap nlE) (c == 10) = _
      rw [h10]
theorem quoted (T : List Nat) : dots (ends (mkS T)) = mkS (wire T true) := by rw [ends_list, dots_list, dotR_wire]
theorem noPair_of {nl : Nat} {T : List Nat} (h : ∀ c ∈ T, c = nl ∨ isNl c = false) : NoPair (mkS T).cps := by
  intro i hi h13 h10
  rw [arr_getD] at h13 h10
  have hs : (mkS T).cps.size = T.length := by simp [mkS]
  rw [hs] at hi
  have g : ∀ j, j < T.length → (mkS T).cps.toList.getD j 0 ∈ T := by
    intro j hj
    show T.getD j 0 ∈ T
    simp [List.getD, hj]
  have a := h _ (g i (by omega))
  have b := h _ (g (i + 1) hi)
  rw [h13] at a
  rw [h10] at b
  have a' : 13 = nl := by
    rcases a with a | a
    · exact a
    · cases a
  have b' : 10 = nl := by
    rcases b with b | b
    · exact b
    · cases b
  omega
end Mine
end
section
open PySem PySem.W PyProof.Rows
set_option Elab.async false
set_option maxRecDepth 100000
set_option linter.unusedVariables false
namespace Mine
theorem idTab_get (i : Nat) (h : i < 256) (d : UInt8) : idTab.getD i d = i.toUInt8 := by
  unfold idTab
  simp [Array.getD_eq_getD_getElem?, h]
theorem idTab_size : idTab.size = 256 := by
  unfold idTab
  simp only [Array.size_map, Array.size_range]
theorem tab_step (T : Array UInt8) (a b x y : UInt8) : List.foldl (fun (t : Array UInt8) (p : UInt8 × UInt8) => t.setIfInBounds p.fst.toNat p.snd) T (#[a, b].toList.zip #[x, y].toList) = (T.setIfInBounds a.toNat x).setIfInBounds b.toNat y := rfl
theorem tab_two (a b x y : UInt8) : mkTab #[a, b] #[x, y] = (idTab.setIfInBounds a.toNat x).setIfInBounds b.toNat y := by
  unfold mkTab
  exact tab_step idTab a b x y
theorem tab_gen (T : Array UInt8) (a b x y c d : UInt8) (hs : T.size = 256) (hc : c.toNat < 256) (hg : T.getD c.toNat d = c.toNat.toUInt8) : ((T.setIfInBounds a.toNat x).setIfInBounds b.toNat y).getD c.toNat d = if c = b then y else if c = a then x else c := by
  have ea : ∀ z : UInt8, z.toNat = c.toNat ↔ c = z := fun z => ⟨fun h => UInt8.toNat_inj.mp h.symm, fun h => by rw [h]⟩
  rw [Array.getD_eq_getD_getElem?, Array.getElem?_setIfInBounds, Array.size_setIfInBounds, hs]
  by_cases h1 : c = b
  · rw [if_pos ((ea b).mpr h1), if_pos (by rw [← h1]; exact hc), if_pos h1]; rfl
  · rw [if_neg (fun q => h1 ((ea b).mp q)), if_neg h1, Array.getElem?_setIfInBounds, hs]
    by_cases h2 : c = a
    · rw [if_pos ((ea a).mpr h2), if_pos (by rw [← h2]; exact hc), if_pos h2]; rfl
    · rw [if_neg (fun q => h2 ((ea a).mp q)), if_neg h2]
      rw [Array.getD_eq_getD_getElem?] at hg
      rw [hg]; simp
theorem tab_get (a b x y : UInt8) (c d : UInt8) : (mkTab #[a, b] #[x, y]).getD c.toNat d = if c = b then y else if c = a then x else c := by
  rw [tab_two]
  exact tab_gen idTab a b x y c d idTab_size c.toNat_lt (idTab_get c.toNat c.toNat_lt d)
theorem ints_trans (T : Array UInt8) (l : List Int) : KBw.bInts (trans T (byteArr l)) = l.map fun v => ((T.getD (v.toNat.toUInt8).toNat (v.toNat.toUInt8)).toNat : Int) := by
  unfold KBw.bInts trans byteArr
  simp only [Array.toList_map, List.map_map]
  rfl
theorem ints_transA (T : Array UInt8) (l : List Nat) : KBw.bInts (trans T (ascB (mkS l))) = l.map fun c => ((T.getD c.toUInt8.toNat c.toUInt8).toNat : Int) := by
  unfold KBw.bInts trans ascB mkS
  simp only [Array.toList_map, List.map_map]
  rfl
/-- the letter of a six -/
noncomputable def lt (pr : Str) (v : Int) : Nat := (let62 ++ pr).cps.getD v.toNat 0
noncomputable def fwd (x y c : UInt8) : UInt8 := if c = 47 then y else if c = 43 then x else c
noncomputable def bwd (x y c : UInt8) : UInt8 := if c = y then 47 else if c = x then 43 else c
/-- what is asked of a pair -/
structure PairOk (pr : Str) (x y : UInt8) (nl : Nat) : Prop where
  len : pr.length = 2
  asc : ∀ c ∈ pr.cps, c < 128
  pb : prB pr = #[x, y]
  ab : ascB pr = #[x, y]
  isnl : isNl nl = true
  strip : Txt.stripChars pr (Str.ofString ".") = mkS [nl]
  item : ∀ n : Nat, n < 64 → Txt.item (let62 ++ pr) (n : Int) = mkS [lt pr (n : Int)]
  out : ∀ n : Nat, n < 64 → (fwd x y ((dg (n : Int)).toNat.toUInt8)).toNat = lt pr (n : Int)
  back : ∀ n : Nat, n < 64 → ((bwd x y ((lt pr (n : Int)).toUInt8)).toNat : Int) = dg (n : Int)
  one : ∀ n : Nat, n < 64 → lt pr (n : Int) = nl ∨ isNl (lt pr (n : Int)) = false
  small : ∀ n : Nat, n < 64 → lt pr (n : Int) < 128
  pout : (fwd x y 61).toNat = 61
  pback : (bwd x y 61).toNat = 61
theorem pair1 : PairOk (Str.ofString ".\n") 46 10 10 := ⟨by decide +kernel, by decide +kernel, by decide +kernel, by decide +kernel, by decide +kernel, by decide +kernel, by decide +kernel, by decide +kernel, by decide +kernel, by decide +kernel, by decide +kernel, by decide +kernel, by decide +kernel⟩
theorem pair2 : PairOk (Str.ofString "\n.") 10 46 10 := ⟨by decide +kernel, by decide +kernel, by decide +kernel, by decide +kernel, by decide +kernel, by decide +kernel, by decide +kernel, by decide +kernel, by decide +kernel, by decide +kernel, by decide +kernel, by decide +kernel, by decide +kernel⟩
theorem pair3 : PairOk (Str.ofString ".\r") 46 13 13 := ⟨by decide +kernel, by decide +kernel, by decide +kernel, by decide +kernel, by decide +kernel, by decide +kernel, by decide +kernel, by decide +kernel, by decide +kernel, by decide +kernel, by decide +kernel, by decide +kernel, by decide +kernel⟩
theorem pair4 : PairOk (Str.ofString "\r.") 13 46 13 := ⟨by decide +kernel, by decide +kernel, by decide +kernel, by decide +kernel, by decide +kernel, by decide +kernel, by decide +kernel, by decide +kernel, by decide +kernel, by decide +kernel, by decide +kernel, by decide +kernel, by decide +kernel⟩
theorem pair_ok : ∀ pr ∈ prs, ∃ x y nl, PairOk pr x y nl := by
  intro pr h
  rcases List.mem_cons.mp h with rfl | h
  · exact ⟨_, _, _, pair1⟩
  rcases List.mem_cons.mp h with rfl | h
  · exact ⟨_, _, _, pair2⟩
  rcases List.mem_cons.mp h with rfl | h
  · exact ⟨_, _, _, pair3⟩
  rcases List.mem_cons.mp h with rfl | h
  · exact ⟨_, _, _, pair4⟩
  cases h
theorem up {P : Int → Prop} (h : ∀ n : Nat, n < 64 → P (n : Int)) {v : Int} (hv : 0 ≤ v ∧ v < 64) : P v := by
  have := h v.toNat (by omega)
  rwa [Int.toNat_of_nonneg hv.1] at this
section
variable {ms : List Int}
theorem octs_bys (ms : List Int) : octs ms = bys (ms.map num) := by
  unfold octs bys
  rw [List.flatMap_map]
  congr 1
  funext m
  rw [Int.fdiv_eq_ediv_of_nonneg _ (by decide), Int.fmod_eq_emod_of_nonneg _ (by decide)]
theorem inW (h : ∀ m ∈ ms, Good m) : InW (ms.map num) := by
  intro n hn
  obtain ⟨m, hm, rfl⟩ := List.mem_map.mp hn
  exact num_b (h m hm)
theorem bys_in : ∀ ns : List Int, InW ns → ∀ n ∈ bys ns, 0 ≤ n ∧ n < 256
  | [], _, n, hn => by cases hn
  | a :: t, h, n, hn => by
    have ha := h a (.head _)
    have hn' : n ∈ a / 256 :: a % 256 :: bys t := hn
    rcases List.mem_cons.mp hn' with rfl | hn'
    · omega
    rcases List.mem_cons.mp hn' with rfl | hn'
    · omega
    exact bys_in t (fun k hk => h k (.tail _ hk)) n hn'
theorem listB_lb : ∀ ms : List Int, (∀ m ∈ ms, Good m) → listB ms = lb (ms.map num)
  | [], _ => rfl
  | m :: ms, h => by
    show bitsOf (fileOf m) ++ listB ms = b16 (num m) ++ lb (ms.map num)
    rw [bits_file (h m (.head _)), listB_lb ms fun k hk => h k (.tail _ hk)]
theorem lb_bit : ∀ ns : List Int, ∀ b ∈ lb ns, b = 0 ∨ b = 1
  | [], b, hb => by cases hb
  | n :: ns, b, hb => by
    have hb' : b ∈ b16 n ++ lb ns := hb
    rcases List.mem_append.mp hb' with h | h
    · unfold b16 at h
      simp only [List.mem_cons, List.not_mem_nil, or_false] at h
      rcases h with rfl | rfl | rfl | rfl | rfl | rfl | rfl | rfl | rfl | rfl | rfl | rfl | rfl | rfl | rfl | rfl <;> exact Int.emod_two_eq _
    · exact lb_bit ns b h
theorem sixes_len : ∀ ns : List Int, (sixes ns).length + (pads ns).length ≤ 4 * ns.length
  | [] => by decide
  | [_] => Nat.le_refl 4
  | [_, _] => Nat.le_refl 8
  | a :: b :: c :: t => by
    have ih := sixes_len t
    show (sixes t).length + 1 + 1 + 1 + 1 + 1 + 1 + 1 + 1 + (pads t).length ≤ 4 * (t.length + 1 + 1 + 1)
    omega
theorem text_len (f : Int → Nat) (ns : List Int) : (text f ns).length ≤ 4 * ns.length := by
  unfold text padN
  have := sixes_len ns
  simp; omega
theorem wire_len : ∀ (T : List Nat) (fr : Bool), (wire T fr).length ≤ 2 * T.length
  | [], _ => Nat.le_refl _
  | c :: T, fr => by
    rw [wire_cons, List.length_append, List.length_cons]
    have := wire_len T (isNl c)
    have : (pc c fr).length ≤ 2 := by
      unfold pc
      split
      · decide
      · split <;> simp
    omega
theorem pads_61 (ns : List Int) : ∀ c ∈ pads ns, c = 61 := by
  rcases pads_cases ns with h | h | h <;> rw [h] <;> simp
end
section
variable {ms : List Int} {pr : Str} {x y : UInt8} {nl : Nat}
theorem txt_text (h : ∀ m ∈ ms, Good m) (P : PairOk pr x y nl) : txt ms pr = mkS (text (lt pr) (ms.map num)) := by
  have hW := inW h
  apply Str.ext'
  apply Array.toList_inj.mp
  unfold txt
  rw [join_cat]
  unfold catN wrt
  rw [List.flatMap_map, octs_bys, KBa.ints_make (bys_in _ hW), enc_sixes _ _ hW, P.pb]
  show ((KBw.bInts (trans (mkTab #[43, 47] #[x, y]) (byteArr ((sixes (ms.map num)).map dg ++ pads (ms.map num))))).flatMap fun c => [c.toNat]) = text (lt pr) (ms.map num)
  have e1 : KBw.bInts (trans (mkTab #[43, 47] #[x, y]) (byteArr ((sixes (ms.map num)).map dg ++ pads (ms.map num)))) = ((sixes (ms.map num)).map dg ++ pads (ms.map num)).map fun v => ((fwd x y (v.toNat.toUInt8)).toNat : Int) := by
    rw [ints_trans]
    refine List.map_congr_left fun v hv => ?_
    rw [tab_get]
    unfold fwd
    rfl
  rw [e1, List.flatMap_map, ← List.map_eq_flatMap, List.map_append, List.map_map]
  unfold text padN
  congr 1
  · refine List.map_congr_left fun v hv => ?_
    exact up (P := fun v => (fwd x y ((dg v).toNat.toUInt8)).toNat = lt pr v) P.out (sixes_b _ hW v hv)
  · refine List.map_congr_left fun v hv => ?_
    rw [pads_61 _ v hv]
    exact P.pout
theorem text_one (hW : InW (ms.map num)) (P : PairOk pr x y nl) : ∀ c ∈ text (lt pr) (ms.map num), c = nl ∨ isNl c = false := by
  intro c hc
  rcases List.mem_append.mp hc with hc | hc
  · obtain ⟨v, hv, rfl⟩ := List.mem_map.mp hc
    exact up (P := fun v => lt pr v = nl ∨ isNl (lt pr v) = false) P.one (sixes_b _ hW v hv)
  · rw [padN_61 _ c hc]; exact .inr rfl
theorem text_small (hW : InW (ms.map num)) (P : PairOk pr x y nl) : ∀ c ∈ text (lt pr) (ms.map num), c < 128 := by
  intro c hc
  rcases List.mem_append.mp hc with hc | hc
  · obtain ⟨v, hv, rfl⟩ := List.mem_map.mp hc
    exact up (P := fun v => lt pr v < 128) P.small (sixes_b _ hW v hv)
  · rw [padN_61 _ c hc]; decide
theorem undot_stuff {l : List Nat} : undot (mkS (stuff l)) = mkS l := by
  unfold undot
  rw [slice_one]
  have e : (mkS (stuff l)).cps.toList = stuff l := by simp [mkS]
  rw [e, show Str.ofString "." = mkS [46] from rfl]
  by_cases h : l.head? = some 46
  · cases l with
    | nil => cases h
    | cons c t =>
      have hc : c = 46 := by simpa using h
      subst hc
      show (if (mkS [46] == mkS [46]) = true then _ else _) = _
      rw [if_pos (by rw [beq_one]; rfl), slice_rest (by rw [mkS_len]; show 1 ≤ (46 :: 46 :: t).length; simp)]
      rfl
  · rw [stuff_of_ne h]
    cases l with
    | nil => rfl
    | cons c t =>
      have hc : c ≠ 46 := by simpa using h
      show (if (mkS [c] == mkS [46]) = true then _ else _) = _
      rw [if_neg (by rw [beq_one]; simpa using hc)]
theorem bwd_text (hW : InW (ms.map num)) (P : PairOk pr x y nl) : KBw.bInts (trans (mkTab (ascB pr) #[43, 47]) (ascB (mkS (text (lt pr) (ms.map num))))) = (sixes (ms.map num)).map dg ++ pads (ms.map num) := by
  rw [P.ab]
  have e1 : KBw.bInts (trans (mkTab #[x, y] #[43, 47]) (ascB (mkS (text (lt pr) (ms.map num))))) = (text (lt pr) (ms.map num)).map fun c => ((bwd x y c.toUInt8).toNat : Int) := by
    rw [ints_transA]
    refine List.map_congr_left fun c hc => ?_
    rw [tab_get]
    unfold bwd
    rfl
  rw [e1]
  unfold text padN
  rw [List.map_append, List.map_map, List.map_map]
  congr 1
  · refine List.map_congr_left fun v hv => ?_
    exact up (P := fun v => ((bwd x y ((lt pr v).toUInt8)).toNat : Int) = dg v) P.back (sixes_b _ hW v hv)
  · have : ∀ v ∈ pads (ms.map num), ((bwd x y (Int.toNat v).toUInt8).toNat : Int) = v := by
      intro v hv
      rw [pads_61 _ v hv]
      exact congrArg Nat.cast P.pback
    exact (List.map_congr_left (g := _root_.id) this).trans (List.map_id _)
theorem bys_get : ∀ (ns : List Int) (i : Nat), (bys ns).getD (2 * i) 0 = ns.getD i 0 / 256 ∧ (bys ns).getD (2 * i + 1) 0 = ns.getD i 0 % 256
  | [], i => by simp [bys]
  | a :: t, 0 => ⟨rfl, rfl⟩
  | a :: t, i + 1 => by
    have := bys_get t i
    exact this
theorem told_ok (h : ∀ m ∈ ms, Good m) : toldOf (octs ms) = ms.map fileOf := by
  have hW := inW h
  have hin : KBa.In (octs ms) := by rw [octs_bys]; exact bys_in _ hW
  have hb : ∀ k : Int, byteAt (octs ms) k = (octs ms).getD k.toNat 0 := by
    intro k
    unfold byteAt
    rw [KBw.getD_ints]
    show (KBw.bInts (byteArr (octs ms))).getD k.toNat 0 = _
    rw [KBa.ints_make hin]
  unfold toldOf rng
  rw [octs_len, show (2 * ms.length + 1) / 2 = ms.length from by omega, List.map_map]
  apply List.ext_getElem
  · simp
  · intro i h1 h2
    have hi : i < ms.length := by simpa using h2
    simp only [List.getElem_map, List.getElem_range, Function.comp]
    rw [hb, hb, octs_bys, show (0 + (i : Int) * 2).toNat = 2 * i from by omega, show (0 + (i : Int) * 2 + 1).toNat = 2 * i + 1 from by omega, (bys_get _ i).1, (bys_get _ i).2]
    have e : (ms.map num).getD i 0 = num ms[i] := by simp [List.getD, hi]
    rw [e, show num ms[i] / 256 * 256 + num ms[i] % 256 = num ms[i] from by omega]
    exact row_file (h _ (List.getElem_mem _))
theorem law_ok (hl : ms.length ≤ 10) (h : ∀ m ∈ ms, Good m) (hp : pr ∈ prs) : LawOk ms pr := by
  obtain ⟨x, y, nl, P⟩ := pair_ok pr hp
  have hW := inW h
  have ht := txt_text h P
  have h1 := text_one hW P
  have hs := text_small hW P
  have hM : mailT ms pr = mkS (wire (text (lt pr) (ms.map num)) true) := by
    unfold mailT; rw [ht, quoted]
  have hmo : mailOf (listB ms) pr = mkS (wire (text (lt pr) (ms.map num)) true) := by
    rw [listB_lb ms h]
    exact mailOf_wire hW fun v hv => up (P := fun v => Txt.item (let62 ++ pr) v = mkS [lt pr v]) P.item hv
  have htl := text_len (lt pr) (ms.map num)
  rw [List.length_map] at htl
  obtain ⟨l0, r, e1, e2, e3, _⟩ := wire_lines P.isnl _ h1
  have hwl := wire_len (text (lt pr) (ms.map num)) true
  have hMl : (mailT ms pr).length ≤ 80 := by rw [hM, mkS_len]; omega
  have free : ∀ l ∈ l0 :: r, 13 ∉ l := fun l hl hm => by
    have := e2 l hl 13 hm
    cases this
  have hsp : Txt.split (mailT ms pr) (Str.ofString "\r\n") = (l0 :: r).map fun l => mkS (stuff l) := by
    rw [hM, e3, show Str.ofString "\r\n" = mkS [13, 10] from rfl, split_lines _ _ (stuff_free (free l0 (.head _))) ?_]
    · simp
    · intro l hl
      obtain ⟨k, hk, rfl⟩ := List.mem_map.mp hl
      exact stuff_free (free k (.tail _ hk))
  have hh : heardOf (mailT ms pr) = (l0 :: r).map mkS := by
    unfold heardOf
    rw [hsp, List.map_map]
    exact List.map_congr_left fun l _ => undot_stuff
  have hj : joined ms pr = mkS (text (lt pr) (ms.map num)) := by
    apply Str.ext'
    apply Array.toList_inj.mp
    unfold joined
    rw [hh, P.strip, join_gl, ← e1]
    simp [mkS]
  have hgl : ∀ (r : List (List Nat)) (l0 : List Nat), ((l0 :: r).map (·.length)).sum + (l0 :: r).length = (gl [nl] l0 r).length + 1 := by
    intro r
    induction r with
    | nil => intro l0; simp [gl]
    | cons l1 r ih =>
      intro l0
      rw [gl_cons, List.map_cons, List.sum_cons, List.length_cons]
      have := ih l1
      simp only [List.length_append, List.length_cons, List.length_nil] at this ⊢
      omega
  have hcount := hgl r l0
  rw [← e1] at hcount
  have hcl : (l0 :: r).length ≤ 41 := by omega
  refine ⟨hl, P.len, P.asc, ?_, ?_, ?_, ?_, ?_, ?_, ?_, ?_, ?_, ?_, ?_, ?_, ?_, told_ok h⟩
  · rw [octs_bys]; exact bys_in _ hW
  · rw [ht]; exact noPair_of h1
  · rw [listB_lb ms h]; exact lb_bit _
  · rw [hM, hmo]
  · rw [length_partsBetween]
    have := StrLaws.occ_length_le (mailT ms pr) (Str.ofString "\r\n") 0 (mailT ms pr).length ((mailT ms pr).length + 1)
    omega
  · rw [hsp, List.length_map]; omega
  · intro l hl
    have := part_short hl
    omega
  · rw [hh, List.map_map, List.length_map, show ((fun s : Str => s.length) ∘ mkS) = fun l => l.length from funext fun l => mkS_len l]
    omega
  · rw [hj]
    intro c hc
    exact hs c (by simpa [mkS] using hc)
  · rw [hj, mkS_len]; omega
  · rw [hj, bwd_text hW P, dec_sixes _ _ hW, octs_bys]; rfl
  · rw [hmo, mkS_len]; omega
  · rw [P.strip, mkS_len]; show 1 ≤ 16; decide
end
end Mine
end
section
open PySem PySem.W PyProof.Rows
set_option Elab.async false
set_option maxRecDepth 100000
set_option linter.unusedVariables false
namespace Mine
theorem imL_ints : ∀ {vs : List Value} {ns : List Int}, IntsAre vs ns → ImL vs (dI ns)
  | [], [], .nil => trivial
  | _ :: _, _ :: _, .cons n t h => ⟨⟨t, rfl⟩, imL_ints h⟩
theorem ok_caller : Ok 5 callerA := ⟨rfl, by decide +kernel, by decide +kernel⟩
theorem rd_script {w : World} {h : Heap} {a : Addr} {vs : List Value} {ns : List Int} {d : WData} (hd : ∃ xs, d = .list xs) (hw : Well w.params h (.ref a) d) (hl : h.IsList a vs.toArray) (hi : IntsAre vs ns) : Rd (fun _ => False) h (.ref a) (.list (dI ns)) := by
  obtain ⟨xs, rfl⟩ := hd
  refine ⟨a, vs, rfl, fun q => q, ?_, imL_ints hi⟩
  cases hw with
  | list hg _ =>
    obtain ⟨o, ho, hc, n, hn⟩ := hl
    rw [hg] at ho
    cases ho
    have e : (Data.seq _ _ : Data) = Data.seq vs.toArray n := hn
    injection e with e1 e2
    exact ⟨0, by rw [hg, e1]⟩
theorem law_true (w : World) (s : Shared) (a : Addr) (ns : List Int) (hl : ns.length ≤ 63) (gd : Gd w s.heap) (hr : Rd (fun _ => False) s.heap (.ref a) (.list (dI ns))) :
    wpAny (model prg w) callerA (PySem.call (.ref 230) [.ref a]) (fun v s' => Keeps s s' ∧ v = .bool true) (fun _ _ => False) s := by
  have hL : ∀ pr ∈ prs, LawOk (36862 :: (ns.take 9).map modeOf) pr := fun pr hp => by
    refine law_ok (by simp; omega) (fun m hm => ?_) hp
    rcases List.mem_cons.mp hm with rfl | hm
    · exact good_first
    · obtain ⟨x, _, rfl⟩ := List.mem_map.mp hm
      exact good_mode x
  exact (law_cal w callerA (ok_caller.le (by decide)) ns hl hL).out (fun _ => False) s [.ref a] gd (fun _ q => q.elim) ⟨hr, trivial⟩
end Mine
end
open PySem PySem.W PyProof.Rows
set_option Elab.async false
set_option maxRecDepth 100000 in
set_option maxHeartbeats 8000000 in
theorem PySem.Challenge.cw_oy0110_01_holds : PySem.Challenge.rw_oy0110_01.Holds := by
  refine Mine.hd ?_
  k_fill
  intro w s₀ s₁ mg mb G Y fa o pm cd doc dV kV ho hd hcd hD hmg hg args vals as hpre hlay hrd hwl hlo
  have KX := kIn_of Y
  refine Ground.open G ?_
  intro T B D TE TW
  have h230 : mg (Str.ofString "law") = some (.ref 230) := mg_of KX T.g (by kernel_rfl)
  have hfa : fa = 230 := by
    have q : some (Value.ref fa) = some (Value.ref 230) := hmg.symm.trans h230
    injection q with q
    injection q
  subst hfa
  have gd : Mine.Gd w s₁.heap := ⟨KX, ⟨mg, T.g⟩, ⟨mb, T.b, T.builtins⟩, T.nolimit⟩
  clear hD hd hcd ho B D TE TW h230 hmg T
  wrow_args hpre hlay hrd hwl hlo
  rename_i ns _ _ _ _ _ _ _ la vs _ hL _ hW _ hI _ hlen _
  refine wpAny_mono (Mine.law_true w s₁ la ns (by omega) gd (Mine.rd_script ⟨_, rfl⟩ hW hL hI)) (fun v s' q => ?_) (fun e s' q => q.elim)
  obtain ⟨⟨h', t', rfl, k⟩, rfl⟩ := q
  refine GoodW.toG ⟨.inl ⟨_, .bool true, [], rfl, fun _ => rfl, .bool true, ?_, fun _ => ⟨List.nodup_nil, fun _ h => nomatch h⟩⟩, k, rfl, hg⟩
  exact postW_of (r := PySem.Challenge.rw_oy0110_01.row.toRowW) (X := (true == true)) rfl (w_eq_bool (w_res rfl) w_lit) rfl
