import PyProof.Rows.All
import Wide.All
import OpenK.AllK
import Wide.FinOn
import PySem.Challenge.RW_oc0072_02
set_option Elab.async false
set_option linter.unusedVariables false
section
open PySem PySem.W PyProof.Rows PySem.Calls
set_option maxRecDepth 100000
namespace Mine

/-- what the top left, as far as the walk asks it -/
structure Tp (K : Frag) (mg mb : Str → Option Value) (g : Heap) : Prop where
  x : K.In g
  tg : g.Ns mainGlobals mg
  tb : g.Ns builtinsNs mb
  bb : ∀ x : Str, x ≠ "__name__" → mb x = bootBuiltins x
  lim : g.NoLimit

def Sub (g h : Heap) : Prop := ∀ b o, g.get? b = some o → h.get? b = some o
theorem Sub.refl (g : Heap) : Sub g g := fun _ _ e => e
theorem Sub.trans {a b c : Heap} (x : Sub a b) (y : Sub b c) : Sub a c := fun p o e => y p o (x p o e)

theorem Tp.sub {K : Frag} {mg mb : Str → Option Value} {g h : Heap} (t : Tp K mg mb g) (k : Sub g h) : Tp K mg mb h :=
  ⟨fun a o e => k _ _ (t.x a o e), t.tg.keeps k, t.tb.keeps k, t.bb, t.lim.keeps k⟩

/-- an object that holds a frame's names, of which some are known -/
def NsO (o : Obj) (l : List (Str × Value)) : Prop := ∃ (es : Array DictEntry) (ep : Nat) (m : Str → Option Value), o.data = .dict es ep ∧ StrKeys es ∧ (∀ name, nsFind es name = m name) ∧ ∀ p ∈ l, m p.1 = some p.2

structure Sx (K : Frag) (mg mb : Str → Option Value) (os : OsState) (gs : Array GenState) (g : Heap) (L : Addr) (l : List (Str × Value)) (news : List (Addr × Obj)) (s : Shared) : Prop where
  ns : ∃ oL, s.heap.get? L = some oL ∧ NsO oL l
  keep : Sub g s.heap
  gL : g.get? L = none
  nw : ∀ p ∈ news, s.heap.get? p.1 = some p.2 ∧ p.1 ≠ L ∧ g.get? p.1 = none
  nd : (news.map (·.1)).Nodup
  t : Tp K mg mb g
  os : s.os = os
  gs : s.gens = gs

section
variable {K : Frag} {mg mb : Str → Option Value} {os : OsState} {gs : Array GenState} {g : Heap} {L : Addr} {l l' : List (Str × Value)} {news news' : List (Addr × Obj)} {s s' : Shared}

theorem Sx.nsm (σ : Sx K mg mb os gs g L l news s) : ∃ m, s.heap.Ns L m ∧ ∀ p ∈ l, m p.1 = some p.2 := by
  obtain ⟨oL, h, es, ep, m, a, b, c, d⟩ := σ.ns
  exact ⟨m, ⟨oL, es, ep, h, a, b, c⟩, d⟩
theorem ns_of {h : Heap} {L : Addr} {m : Str → Option Value} {l : List (Str × Value)} (x : h.Ns L m) (k : ∀ p ∈ l, m p.1 = some p.2) : ∃ oL, h.get? L = some oL ∧ NsO oL l := by
  obtain ⟨oL, es, ep, h, a, b, c⟩ := x
  exact ⟨oL, h, es, ep, m, a, b, c, k⟩
theorem Sx.tok (σ : Sx K mg mb os gs g L l news s) (k : Nat) : Sx K mg mb os gs g L l news { s with toks := k } :=
  ⟨σ.ns, σ.keep, σ.gL, σ.nw, σ.nd, σ.t, σ.os, σ.gs⟩
/-- what a step that only adds to the heap leaves -/
theorem Sx.ext (σ : Sx K mg mb os gs g L l news s) (k : Sub s.heap s'.heap) (ho : s'.os = s.os) (hg : s'.gens = s.gens) : Sx K mg mb os gs g L l news s' := by
  obtain ⟨oL, h, n⟩ := σ.ns
  exact ⟨⟨oL, k _ _ h, n⟩, σ.keep.trans k, σ.gL, fun p hp => ⟨k _ _ (σ.nw p hp).1, (σ.nw p hp).2⟩, σ.nd, σ.t, ho.trans σ.os, hg.trans σ.gs⟩
theorem Sx.lt (σ : Sx K mg mb os gs g L l news s) : L < s.heap.objs.size := let ⟨_, h, _⟩ := σ.ns; Heap.lt_size h
theorem Sx.glt (σ : Sx K mg mb os gs g L l news s) {b : Addr} {o : Obj} (h : g.get? b = some o) : b < s.heap.objs.size := Heap.lt_size (σ.keep _ _ h)
/-- a step that turns one object that neither the ghost nor the ledger nor the frame is -/
theorem Sx.turn (σ : Sx K mg mb os gs g L l news s) {a : Addr} {h' : Heap} {tk : Nat} (hs : Heap.ExtBut a s.heap h') (hL : L ≠ a) (hg : g.get? a = none) (hn : ∀ p ∈ news, p.1 ≠ a) : Sx K mg mb os gs g L l news { s with heap := h', toks := tk } := by
  obtain ⟨oL, h, n⟩ := σ.ns
  refine ⟨⟨oL, hs _ _ hL h, n⟩, fun b o e => hs _ _ (fun q => ?_) (σ.keep b o e), σ.gL, fun p hp => ⟨hs _ _ (hn p hp) (σ.nw p hp).1, (σ.nw p hp).2⟩, σ.nd, σ.t, σ.os, σ.gs⟩
  rw [q, hg] at e; cases e

/-- names: the known list without one -/
inductive Rm (x : Str) : List (Str × Value) → List (Str × Value) → Prop
  | nil : Rm x [] []
  | hit {v l l'} : Rm x l l' → Rm x ((x, v) :: l) l'
  | skip {y v l l'} : y ≠ x → Rm x l l' → Rm x ((y, v) :: l) ((y, v) :: l')
theorem Rm.spec {x : Str} : ∀ {l l' : List (Str × Value)}, Rm x l l' → ∀ p ∈ l', p ∈ l ∧ p.1 ≠ x
  | _, _, .nil, _, h => by cases h
  | _, _, .hit r, p, h => ⟨.tail _ (r.spec p h).1, (r.spec p h).2⟩
  | _, _, .skip n r, p, h => by
    cases h with
    | head => exact ⟨.head _, n⟩
    | tail _ h => exact ⟨.tail _ (r.spec p h).1, (r.spec p h).2⟩

theorem Sx.loc (σ : Sx K mg mb os gs g L l news s) (h : ∀ p ∈ l', p ∈ l) : Sx K mg mb os gs g L l' news s := by
  obtain ⟨oL, e, es, ep, m, a, b, c, d⟩ := σ.ns
  exact ⟨⟨oL, e, es, ep, m, a, b, c, fun p hp => d p (h p hp)⟩, σ.keep, σ.gL, σ.nw, σ.nd, σ.t, σ.os, σ.gs⟩
theorem Sx.led (σ : Sx K mg mb os gs g L l news s) (h : ∀ p ∈ news', p ∈ news) (nd : (news'.map (·.1)).Nodup) : Sx K mg mb os gs g L l news' s :=
  ⟨σ.ns, σ.keep, σ.gL, fun p hp => σ.nw p (h p hp), nd, σ.t, σ.os, σ.gs⟩
theorem Sx.perm (σ : Sx K mg mb os gs g L l news s) (h : news'.Perm news) : Sx K mg mb os gs g L l news' s :=
  σ.led (fun _ hp => h.mem_iff.mp hp) ((h.map _).nodup_iff.mpr σ.nd)
theorem Sx.drop1 {p : Addr × Obj} (σ : Sx K mg mb os gs g L l (p :: news) s) : Sx K mg mb os gs g L l news s :=
  σ.led (fun _ hp => .tail _ hp) (by have := σ.nd; simp only [List.map_cons, List.nodup_cons] at this; exact this.2)

inductive Pick (p : Addr × Obj) : List (Addr × Obj) → List (Addr × Obj) → Prop
  | head {r} : Pick p (p :: r) r
  | tail {q r r'} : Pick p r r' → Pick p (q :: r) (q :: r')
theorem Pick.perm {p : Addr × Obj} : ∀ {a b : List (Addr × Obj)}, Pick p a b → (p :: b).Perm a
  | _, _, .head => .refl _
  | _, _, .tail h => (List.Perm.swap _ _ _).trans (h.perm.cons _)
theorem Sx.pick {p : Addr × Obj} (σ : Sx K mg mb os gs g L l news s) (h : Pick p news news') : Sx K mg mb os gs g L l (p :: news') s := σ.perm h.perm
theorem Sx.get {p : Addr × Obj} (σ : Sx K mg mb os gs g L l news s) (h : p ∈ news) : s.heap.get? p.1 = some p.2 := (σ.nw p h).1

/-- an object of the ledger turned -/
inductive Up (a : Addr) (o o' : Obj) : List (Addr × Obj) → List (Addr × Obj) → Prop
  | head {r} : Up a o o' ((a, o) :: r) ((a, o') :: r)
  | tail {q r r'} : Up a o o' r r' → Up a o o' (q :: r) (q :: r')
theorem Up.split {a : Addr} {o o' : Obj} : ∀ {x y : List (Addr × Obj)}, Up a o o' x y → ∃ p q, x = p ++ (a, o) :: q ∧ y = p ++ (a, o') :: q
  | _, _, .head => ⟨[], _, rfl, rfl⟩
  | _, _, .tail h => by
    obtain ⟨p, q, e, f⟩ := h.split
    exact ⟨_ :: p, q, by rw [e]; rfl, by rw [f]; rfl⟩
theorem Up.mem {a : Addr} {o o' : Obj} {x y : List (Addr × Obj)} (h : Up a o o' x y) : (a, o) ∈ x := by
  obtain ⟨p, q, rfl, _⟩ := h.split
  exact List.mem_append.mpr (.inr (.head _))
theorem Sx.up {a : Addr} {o o' : Obj} (σ : Sx K mg mb os gs g L l news s) (h : Up a o o' news news') {h' : Heap} {tk : Nat} (hs : Heap.SameBut a s.heap h') (ho : h'.get? a = some o') : Sx K mg mb os gs g L l news' { s with heap := h', toks := tk } := by
  obtain ⟨p, q, rfl, rfl⟩ := h.split
  have hm : (a, o) ∈ p ++ (a, o) :: q := List.mem_append.mpr (.inr (.head _))
  obtain ⟨_, hL, hg⟩ := σ.nw _ hm
  have nd := σ.nd
  simp only [List.map_append, List.map_cons] at nd
  have nd' := nd
  rw [List.nodup_append] at nd'
  obtain ⟨_, n2, n3⟩ := nd'
  rw [List.nodup_cons] at n2
  obtain ⟨oL, hoL, n⟩ := σ.ns
  refine ⟨⟨oL, (hs.2 L (Ne.symm hL)).trans hoL, n⟩, fun b ob e => (hs.2 b fun z => ?_).trans (σ.keep b ob e), σ.gL, fun r hr => ?_, by simpa only [List.map_append, List.map_cons] using nd, σ.t, σ.os, σ.gs⟩
  · rw [z] at e; exact absurd (e.symm.trans hg) (by simp)
  · rcases List.mem_append.mp hr with z | z
    · have y := σ.nw r (List.mem_append_left _ z)
      have ne : r.1 ≠ a := n3 r.1 (List.mem_map_of_mem z) a (.head _)
      exact ⟨(hs.2 _ ne).trans y.1, y.2⟩
    · cases z with
      | head => exact ⟨ho, hL, hg⟩
      | tail _ z =>
        have y := σ.nw r (List.mem_append_right _ (.tail _ z))
        have ne : r.1 ≠ a := fun e => n2.1 (e ▸ List.mem_map_of_mem z)
        exact ⟨(hs.2 _ ne).trans y.1, y.2⟩
theorem Sx.push (σ : Sx K mg mb os gs g L l news s) (o : Obj) (hf : o.isFreed = false := by rfl) : Sx K mg mb os gs g L l ((s.heap.objs.size, o) :: news) { s with heap := s.heap.push o } := by
  have k : Sub s.heap (s.heap.push o) := fun _ _ e => Heap.get?_push_of_some _ e
  have τ : Sx K mg mb os gs g L l news { s with heap := s.heap.push o } := σ.ext k rfl rfl
  have hg : g.get? s.heap.objs.size = none := by
    cases q : g.get? s.heap.objs.size with
    | none => rfl
    | some z => exact absurd (σ.glt q) (Nat.lt_irrefl _)
  refine ⟨τ.ns, τ.keep, τ.gL, fun p hp => ?_, ?_, τ.t, τ.os, τ.gs⟩
  · cases hp with
    | head => exact ⟨Heap.get?_push_size _ hf, fun e => absurd σ.lt (e ▸ Nat.lt_irrefl _), hg⟩
    | tail _ hp => exact τ.nw p hp
  · simp only [List.map_cons, List.nodup_cons]
    refine ⟨fun hm => ?_, σ.nd⟩
    obtain ⟨p, hp, e⟩ := List.mem_map.mp hm
    exact absurd (Heap.lt_size (σ.nw p hp).1) (e ▸ Nat.lt_irrefl _)

/-- what is not to be turned any more goes into the ghost -/
theorem Sx.freeze {fz : List (Addr × Obj)} (σ : Sx K mg mb os gs g L l (fz ++ news) s) : ∃ g', Sub g g' ∧ Sx K mg mb os gs g' L l news s ∧ ∀ p ∈ fz, g'.get? p.1 = some p.2 := by
  have nd := σ.nd
  rw [List.map_append, List.nodup_append] at nd
  have key : ∀ {b : Addr} {o : Obj}, s.heap.get? b = some o → b ≠ L → b ∉ news.map (·.1) → (hideAll s.heap (L :: news.map (·.1))).get? b = some o := fun e h1 h2 =>
    hideAll_get _ e fun q => (List.mem_cons.mp q).elim h1 h2
  have sub : Sub g (hideAll s.heap (L :: news.map (·.1))) := fun b o e => key (σ.keep b o e) (fun q => by rw [q, σ.gL] at e; cases e) fun q => by
    obtain ⟨p, hp, rfl⟩ := List.mem_map.mp q
    rw [(σ.nw p (List.mem_append_right _ hp)).2.2] at e; cases e
  refine ⟨hideAll s.heap (L :: news.map (·.1)), sub, ⟨σ.ns, fun b o e => of_hideAll _ e, hideAll_none _ (.head _), fun p hp => ?_, nd.2.1, σ.t.sub sub, σ.os, σ.gs⟩, fun p hp => ?_⟩
  · have y := σ.nw p (List.mem_append_right _ hp)
    exact ⟨y.1, y.2.1, hideAll_none _ (.tail _ (List.mem_map_of_mem hp))⟩
  · have y := σ.nw p (List.mem_append_left _ hp)
    exact key y.1 y.2.1 fun q => nd.2.2 p.1 (List.mem_map_of_mem hp) p.1 q rfl
end

/-- room for n more frames -/
structure Room (A : Around) (n : Nat) : Prop where
  hh : A.handled = none
  hd : A.depth + n < 1000
  hu : A.units + 8 * n + 200 < 9900
theorem Room.deeper {A : Around} {n : Nat} {env : Env} (r : Room A (n + 1)) : Room (A.deeper env) n :=
  ⟨r.hh, by have := r.hd; show A.depth + 1 + n < 1000; omega, by have := r.hu; show A.units + 3 + 8 * n + 200 < 9900; omega⟩
theorem Room.depth {A : Around} {n : Nat} (r : Room A n) : A.depth < recursionLimit := by have := r.hd; show A.depth < 1000; omega
theorem Room.units {A : Around} {n : Nat} (r : Room A n) : A.units + 199 < cLine := by have := r.hu; show A.units + 199 < 9900; omega
theorem Room.le {A : Around} {n m : Nat} (r : Room A n) (h : m ≤ n) : Room A m := ⟨r.hh, by have := r.hd; omega, by have := r.hu; omega⟩
end Mine
end
section
open PySem PySem.W PyProof.Rows PySem.Calls
set_option maxRecDepth 100000
namespace Mine
section
variable {prog : Program} {w : World} {A : Around} {E : Value → Shared → Prop}
  {K : Frag} {mg mb : Str → Option Value} {os : OsState} {gs : Array GenState} {g : Heap} {L : Addr} {l l' : List (Str × Value)} {news news' : List (Addr × Obj)} {s : Shared} {env : Env}

theorem r_loc {x : Str} {pos : Pos} {v : Value} {Q : Value → Shared → Prop} (σ : Sx K mg mb os gs g L l news s) (hm : (x, v) ∈ l) (h : Q v s)
    (hL : env.locals = L := by rfl) (hk : env.scope.kind = .function := by rfl) (hl : env.kindOf x = some .local := by rfl) (hd : (x == ("__debug__" : Str)) = false := by decide) :
    wpAny (model prog w) A (eval (.Name x pos) env) Q E s := by
  obtain ⟨m, hn, hv⟩ := σ.nsm
  subst hL
  exact wpAny_Name (wpAny_loadName_local hk hl hn (hv _ hm) h) hd
theorem r_locN {x : Str} {v : Value} {Q : Value → Shared → Prop} (σ : Sx K mg mb os gs g L l news s) (hm : (x, v) ∈ l) (h : Q v s)
    (hL : env.locals = L := by rfl) (hk : env.scope.kind = .function := by rfl) (hl : env.kindOf x = some .local := by rfl) :
    wpAny (model prog w) A (loadName env x) Q E s := by
  obtain ⟨m, hn, hv⟩ := σ.nsm
  subst hL
  exact wpAny_loadName_local hk hl hn (hv _ hm) h
theorem r_glob {x : Str} {pos : Pos} {v : Value} {Q : Value → Shared → Prop} (σ : Sx K mg mb os gs g L l news s) (e : nsIn K mainGlobals x = some (some v)) (h : Q v s)
    (hG : env.globals = mainGlobals := by rfl) (hk : env.scope.kind = .function := by rfl) (hx : env.kindOf x = some .globalImplicit := by rfl) (hd : (x == ("__debug__" : Str)) = false := by decide) :
    wpAny (model prog w) A (eval (.Name x pos) env) Q E s :=
  Name_function_global hk hx (loadGlobal_global (hG ▸ σ.t.tg.keeps σ.keep) (mg_of σ.t.x σ.t.tg e) h) hd
theorem r_built {x : Str} {pos : Pos} {v : Value} {Q : Value → Shared → Prop} (σ : Sx K mg mb os gs g L l news s) (e : nsIn K mainGlobals x = some none) (hv : bootBuiltins x = some v) (h : Q v s)
    (hn : x ≠ "__name__" := by decide) (hG : env.globals = mainGlobals := by rfl) (hB : env.builtins = builtinsNs := by rfl) (hk : env.scope.kind = .function := by rfl) (hx : env.kindOf x = some .globalImplicit := by rfl) (hd : (x == ("__debug__" : Str)) = false := by decide) :
    wpAny (model prog w) A (eval (.Name x pos) env) Q E s :=
  Name_function_global hk hx (loadGlobal_builtin (hG ▸ σ.t.tg.keeps σ.keep) (mg_none_of σ.t.x σ.t.tg e) (hB ▸ σ.t.tb.keeps σ.keep) ((σ.t.bb x hn).trans hv) h) hd
theorem r_cell {x : Str} {pos : Pos} {v : Value} {c : Addr} {o : Obj} {Q : Value → Shared → Prop} (σ : Sx K mg mb os gs g L l news s) (hc : env.cells.lookup x = some c) (hm : (c, o) ∈ news) (hd : o.data = .cell (some v)) (h : Q v s)
    (hk : env.scope.kind = .function := by rfl) (hx : env.kindOf x = some .cell := by rfl) (hb : (x == ("__debug__" : Str)) = false := by decide) :
    wpAny (model prog w) A (eval (.Name x pos) env) Q E s := wpAny_Name (wpAny_loadName_cell hk hx hc ⟨o, σ.get hm, hd⟩ h) hb
theorem r_free {x : Str} {pos : Pos} {v : Value} {c : Addr} {o : Obj} {Q : Value → Shared → Prop} (σ : Sx K mg mb os gs g L l news s) (hc : env.cells.lookup x = some c) (hm : (c, o) ∈ news) (hd : o.data = .cell (some v)) (h : Q v s)
    (hk : env.scope.kind = .function := by rfl) (hx : env.kindOf x = some .free := by rfl) (hb : (x == ("__debug__" : Str)) = false := by decide) (hn : (x == ("__classdict__" : Str)) = false := by decide) :
    wpAny (model prog w) A (eval (.Name x pos) env) Q E s := wpAny_Name (wpAny_loadName_free hk hx hc ⟨o, σ.get hm, hd⟩ h hn) hb

theorem r_st {x : Str} {v : Value} {Q : Unit → Shared → Prop} (σ : Sx K mg mb os gs g L l news s) (hr : Rm x l l')
    (h : ∀ s', Sx K mg mb os gs g L ((x, v) :: l') news s' → Q () s')
    (hL : env.locals = L := by rfl) (hk : env.scope.kind = .function := by rfl) (hl : env.kindOf x = some .local := by rfl) :
    wpAny (model prog w) A (storeName env x v) Q E s := by
  obtain ⟨m, hn, hv⟩ := σ.nsm
  subst hL
  refine wpAny_storeName_local hl hn (fun h' hn' hs => h _ ?_) (by rw [hk]; rfl)
  have nL : ∀ p ∈ news, p.1 ≠ env.locals := fun p hp => (σ.nw p hp).2.1
  refine ⟨ns_of hn' fun p hp => ?_, fun b o e => (hs.2 b fun q => ?_).trans (σ.keep b o e), σ.gL, fun p hp => ⟨(hs.2 _ (nL p hp)).trans (σ.nw p hp).1, (σ.nw p hp).2⟩, σ.nd, σ.t, σ.os, σ.gs⟩
  · cases hp with
    | head => simp
    | tail _ hp =>
      have z := hr.spec p hp
      simp only [if_neg z.2]
      exact hv p z.1
  · have := σ.gL; rw [← q, e] at this; cases this
theorem r_stc {x : Str} {v : Value} {v₀ : Option Value} {c : Addr} {o : Obj} {Q : Unit → Shared → Prop} (σ : Sx K mg mb os gs g L l ((c, o) :: news) s) (hc : env.cells.lookup x = some c) (hd : o.data = .cell v₀)
    (h : ∀ s' o', o'.data = .cell (some v) → Sx K mg mb os gs g L l ((c, o') :: news) s' → Q () s')
    (hk : env.scope.kind = .function := by rfl) (hx : env.kindOf x = some .cell := by rfl) :
    wpAny (model prog w) A (storeName env x v) Q E s := by
  refine wpAny_storeName_cell hk hx hc ⟨o, σ.get (.head _), hd⟩ fun h' hv hs => ?_
  obtain ⟨o', ho', hd'⟩ := hv
  exact h _ o' hd' (σ.up (tk := s.toks) .head hs ho')

theorem r_int {i : Int} {k : Nat} {pos : Pos} {Q : Value → Shared → Prop} (σ : Sx K mg mb os gs g L l news s) (h : ∀ t s', Sx K mg mb os gs g L l news s' → Q (.int i t) s') :
    wpAny (model prog w) A (eval (.Constant (.int i) k pos) env) Q E s := wpAny_Constant_int (h _ _ (σ.tok _))
theorem r_str {x : Str} {k : Nat} {pos : Pos} {Q : Value → Shared → Prop} (σ : Sx K mg mb os gs g L l news s) (h : ∀ t s', Sx K mg mb os gs g L l news s' → Q (.str x t) s') :
    wpAny (model prog w) A (eval (.Constant (.str x) k pos) env) Q E s := Constant_str (h _ _ (σ.tok _))

theorem r_add {a b : Int} {t u : Tok} {Q : Value → Shared → Prop} (σ : Sx K mg mb os gs g L l news s) (h : ∀ t s', Sx K mg mb os gs g L l news s' → Q (.int (a + b) t) s') :
    wpAny (model prog w) A (binaryOp .Add (.int a t) (.int b u)) Q E s := wpAny_add_int (h _ _ (σ.tok _))
theorem r_iadd {a b : Int} {t u : Tok} {Q : Value → Shared → Prop} (σ : Sx K mg mb os gs g L l news s) (h : ∀ t s', Sx K mg mb os gs g L l news s' → Q (.int (a + b) t) s') :
    wpAny (model prog w) A (inplaceOp .Add (.int a t) (.int b u)) Q E s := wpAny_iadd_int (h _ _ (σ.tok _))
theorem r_sub {a b : Int} {t u : Tok} {Q : Value → Shared → Prop} (σ : Sx K mg mb os gs g L l news s) (h : ∀ t s', Sx K mg mb os gs g L l news s' → Q (.int (a - b) t) s') :
    wpAny (model prog w) A (binaryOp .Sub (.int a t) (.int b u)) Q E s := sub_int (h _ _ (σ.tok _))
theorem r_half {a : Int} {t u : Tok} {Q : Value → Shared → Prop} (σ : Sx K mg mb os gs g L l news s) (h0 : 0 ≤ a) (h : ∀ t s', Sx K mg mb os gs g L l news s' → Q (.int (a / 2) t) s') :
    wpAny (model prog w) A (binaryOp .RShift (.int a t) (.int 1 u)) Q E s := wpAny_rshift1_int h0 (h _ _ (σ.tok _))
theorem r_lt {a b : Int} {t u : Tok} {Q : Value → Shared → Prop} (h : Q (.bool (decide (a < b))) s) : wpAny (model prog w) A (compareOp .Lt (.int a t) (.int b u)) Q E s := wpAny_lt_int h
theorem r_gt {a b : Int} {t u : Tok} {Q : Value → Shared → Prop} (h : Q (.bool (decide (a > b))) s) : wpAny (model prog w) A (compareOp .Gt (.int a t) (.int b u)) Q E s := SiftDown.gt_int h

end
end Mine
end
section
open PySem PySem.W PyProof.Rows PySem.Calls
set_option maxRecDepth 100000
namespace Mine
section
variable {prog : Program} {w : World} {A : Around} {E : Value → Shared → Prop}
  {K : Frag} {mg mb : Str → Option Value} {os : OsState} {gs : Array GenState} {g : Heap} {L : Addr} {l l' : List (Str × Value)} {news news' : List (Addr × Obj)} {s : Shared} {env : Env}

theorem lookup_rev : ∀ {b : List (Str × Value)}, (b.map (·.1)).Nodup → ∀ p ∈ b, b.reverse.lookup p.1 = some p.2 := by
  intro b hn p hp
  have hn' : (b.reverse.map (·.1)).Nodup := by rw [List.map_reverse]; exact List.pairwise_reverse.mpr (List.Pairwise.imp (fun h => Ne.symm h) hn)
  have hp' : p ∈ b.reverse := List.mem_reverse.mpr hp
  generalize b.reverse = c at hn' hp'
  clear hn hp
  induction c with
  | nil => cases hp'
  | cons q r ih =>
    rw [List.map_cons, List.nodup_cons] at hn'
    obtain ⟨y, v⟩ := q
    cases hp' with
    | head => simp [List.lookup]
    | tail _ h =>
      have ne : p.1 ≠ y := fun e => hn'.1 (List.mem_map.mpr ⟨p, h, e⟩)
      rw [List.lookup_cons, show (p.1 == y) = false from by simpa using ne]
      exact ih hn'.2 h

/-- a def of the text is called: its frame is made, ours goes onto the ledger -/
theorem r_call {n : Nat} {f : Addr} {name qual : Str} {params : Arguments} {body : List Stmt} {scope : Scope} {dV kV doc pm cdv ct oc : Value} {an od : Option Addr} {osl : Array (Option Value)} {args : List Value} {binds : List (Str × Value)} {Q : Value → Shared → Prop}
    (σ : Sx K mg mb os gs g L l news s) (ρ : Room A (n + 1))
    (ho : K.lookup f = some ⟨oc, od, .func (fnOf name qual params body scope dV kV doc pm an cdv ct), osl⟩) (hcd : codeIn K cdv qual = true)
    (hbind : BindsTo s (fnOf name qual params body scope dV kV doc pm an cdv ct) ⟨args, []⟩ binds) (hloc : ∀ y ∈ binds, scope.names.lookup y.1 = some .local)
    (hnd : (binds.map (·.1)).Nodup)
    (h : ∀ L' oL s₁, NsO oL l → Room (A.deeper (envOf qual scope L' f cdv)) n → Sx K mg mb os gs g L' binds ((L, oL) :: news) s₁ →
      wpAny (model prog w) (A.deeper (envOf qual scope L' f cdv)) (execs body (envOf qual scope L' f cdv)) (fun fl s' => Q (match fl with | .ret v => v | _ => .none) s') (fun _ _ => False) s₁)
    (hco : scope.isCoroutine = false) (hgen : scope.isGenerator = false) (hk : scope.kind = .function) (hcell : ∀ x ∈ scope.names, x.2 ≠ .cell) :
    wpAny (model prog w) A (call (.ref f) args) Q E s := by
  have X := σ.t.sub σ.keep
  refine wpAny_call (codeAny_call_def (fd := fnOf name qual params body scope dV kV doc pm an cdv ct) (body := body) (binds := binds) ρ.depth (X.x _ _ ho) rfl X.lim (codeRec_of X.x hcd) rfl hbind hcell hloc (fun h₁ hns hk₁ => ?_) hco hgen hk)
  obtain ⟨oL, hoL, nL⟩ := σ.ns
  have gN : g.get? s.heap.objs.size = none := by
    cases q : g.get? s.heap.objs.size with
    | none => rfl
    | some z => exact absurd (σ.glt q) (Nat.lt_irrefl _)
  have ne : ∀ p ∈ news, p.1 ≠ s.heap.objs.size := fun p hp e => absurd (Heap.lt_size (σ.nw p hp).1) (e ▸ Nat.lt_irrefl _)
  refine wpAny_mono (h s.heap.objs.size oL _ nL ρ.deeper ⟨ns_of hns (lookup_rev hnd), σ.keep.trans hk₁, gN, fun p hp => ?_, ?_, σ.t, σ.os, σ.gs⟩) (fun _ _ x => x) (fun _ _ x => x.elim)
  · cases hp with
    | head => exact ⟨hk₁ _ _ hoL, Nat.ne_of_lt (Heap.lt_size hoL), σ.gL⟩
    | tail _ hp => exact ⟨hk₁ _ _ (σ.nw p hp).1, ne p hp, (σ.nw p hp).2.2⟩
  · rw [List.map_cons, List.nodup_cons]
    refine ⟨fun hm => ?_, σ.nd⟩
    obtain ⟨p, hp, e⟩ := List.mem_map.mp hm
    exact (σ.nw p hp).2.1 e
/-- back in the caller's frame -/
theorem Sx.back {L' : Addr} {oL : Obj} {l₀ : List (Str × Value)} (σ : Sx K mg mb os gs g L' l news s) (n : NsO oL l₀) (h : Pick (L, oL) news news') : Sx K mg mb os gs g L l₀ news' s := by
  have τ := σ.pick h
  have z := τ.nw _ (.head _)
  have nd := τ.nd
  rw [List.map_cons, List.nodup_cons] at nd
  exact ⟨⟨oL, z.1, n⟩, τ.keep, z.2.2, fun p hp => ⟨(τ.nw p (.tail _ hp)).1, fun e => nd.1 (List.mem_map.mpr ⟨p, hp, e⟩), (τ.nw p (.tail _ hp)).2.2⟩, nd.2, τ.t, τ.os, τ.gs⟩

theorem r_fn {x : Str} {np pos : Pos} {f : Addr} {e : Expr} {rest : List Expr} {oc : Value} {od : Option Addr} {fd : FuncData} {osl : Array (Option Value)} {Q : Value → Shared → Prop} (σ : Sx K mg mb os gs g L l news s)
    (en : nsIn K mainGlobals x = some (some (.ref f))) (ho : K.lookup f = some ⟨oc, od, .func fd, osl⟩)
    (h : wpAny (model prog w) A (spliced (backTo pos (starEach (e :: rest) env))) (fun vs s₁ => Sub g s₁.heap ∧ wpAny (model prog w) A (call (.ref f) vs) Q E s₁) E s)
    (hs : starEach (e :: rest) env = (false, eval e env) :: starEach rest env := by rfl)
    (hG : env.globals = mainGlobals := by rfl) (hk : env.scope.kind = .function := by rfl) (hx : env.kindOf x = some .globalImplicit := by rfl) (hd : (x == ("__debug__" : Str)) = false := by decide) :
    wpAny (model prog w) A (eval (.Call (.Name x np) (e :: rest) [] pos) env) Q E s := by
  refine Call_Name rfl (r_glob σ en ?_ hG hk hx hd)
  rw [hs] at h ⊢
  refine callWith_function (o := ⟨oc, od, .func fd, osl⟩) (fd := fd) (evalArgs_plain (wpAny_mono h (fun vs s₁ z => ⟨⟨z.1 _ _ (σ.t.x _ _ ho), rfl⟩, z.2⟩) fun _ _ x => x))
theorem r_fnB {x : Str} {np pos : Pos} {id : String} {e : Expr} {rest : List Expr} {Q : Value → Shared → Prop} (σ : Sx K mg mb os gs g L l news s)
    (en : nsIn K mainGlobals x = some none) (hv : bootBuiltins x = some (.builtin id))
    (h : wpAny (model prog w) A (spliced (backTo pos (starEach (e :: rest) env))) (fun vs s₁ => wpAny (model prog w) A (call (.builtin id) vs) Q E s₁) E s)
    (hp : (backTo pos (starEach (e :: rest) env)).any (·.1) = false := by rfl)
    (hs : starEach (e :: rest) env = (false, eval e env) :: starEach rest env := by rfl)
    (hn : x ≠ "__name__" := by decide) (hG : env.globals = mainGlobals := by rfl) (hB : env.builtins = builtinsNs := by rfl) (hk : env.scope.kind = .function := by rfl) (hx : env.kindOf x = some .globalImplicit := by rfl) (hd : (x == ("__debug__" : Str)) = false := by decide) :
    wpAny (model prog w) A (eval (.Call (.Name x np) (e :: rest) [] pos) env) Q E s := by
  refine Call_Name rfl (r_built σ en hv ?_ hn hG hB hk hx hd)
  refine callWith_builtin hp ?_
  rw [hs] at h ⊢
  exact evalArgs_plain h

/-- lists of the ledger -/
theorem isL {a : Addr} {its : Array Value} {n : Nat} (σ : Sx K mg mb os gs g L l news s) (hm : (a, listOf its n) ∈ news) : s.heap.IsList a its := ⟨_, σ.get hm, rfl, n, rfl⟩
theorem r_len {a : Addr} {its : Array Value} {n : Nat} {Q : Value → Shared → Prop} (σ : Sx K mg mb os gs g L l news s) (hm : (a, listOf its n) ∈ news) (hf : (its.size : Int) < 2 ^ 63)
    (h : ∀ t s', Sx K mg mb os gs g L l news s' → Q (.int its.size t) s') : wpAny (model prog w) A (call (.builtin "len") [.ref a]) Q E s :=
  call_len_list (isL σ hm) hf (h _ _ (σ.tok _))
theorem r_item {value slice : Expr} {a : Addr} {its : Array Value} {n : Nat} {k : Int} {u : Tok} {v : Value} {Q : Value → Shared → Prop} (σ : Sx K mg mb os gs g L l news s) (hm : (a, listOf its n) ∈ news)
    (h0 : 0 ≤ k) (hf : k < 2 ^ 63) (hx : its[k.toNat]? = some v) (h : Q v s)
    (hs : subscripted slice false (.ref a) (.int k u) = operate [.ref a, .int k u] (getItem (.ref a) (.int k u)) := by with_unfolding_all rfl) :
    wpAny (model prog w) A (subscriptTail value slice (.ref a) (.int k u)) Q E s :=
  tail_any (isL σ hm).typeIs slot_list_getitem.lookup (wpAny_getItem_list (isL σ hm) h0 hf hx h) hs
theorem r_set {a : Addr} {its : List Value} {n : Nat} {k : Int} {u : Tok} {v : Value} {Q : Unit → Shared → Prop} (σ : Sx K mg mb os gs g L l news s) (hu : Up a (listOf its.toArray n) (listOf (its.set k.toNat v).toArray n) news news')
    (h0 : 0 ≤ k) (hf : k < 2 ^ 63) (hn : k < its.length) (h : ∀ s', Sx K mg mb os gs g L l news' s' → Q () s') :
    wpAny (model prog w) A (setItem (.ref a) (.int k u) v) Q E s := by
  refine ki_setAt (σ.get hu.mem) h0 hf (by simpa using hn) (h _ ?_)
  refine σ.up (tk := s.toks) hu (Heap.SameBut.update ..) ?_
  have q := PySem.IsL.update (σ.get hu.mem) (fun xs => xs.setIfInBounds k.toNat v)
  have e : its.toArray.setIfInBounds k.toNat v = (its.set k.toNat v).toArray := by
    apply Array.toList_inj.mp
    simp
  rw [e] at q
  simpa using q
theorem r_append {a : Addr} {its : List Value} {n : Nat} {v : Value} {Q : Value → Shared → Prop} (σ : Sx K mg mb os gs g L l news s) (hu : Up a (listOf its.toArray n) (listOf (its ++ [v]).toArray (n + 1)) news news')
    (hz : its.length ≤ sizeLine) (h : ∀ s', Sx K mg mb os gs g L l news' s' → Q .none s') :
    wpAny (model prog w) A (call (.builtin "list.append") [.ref a, v]) Q E s := by
  refine append_at (its := its.toArray) (hsz := by simpa using hz) (σ.get hu.mem) fun h' hs ho => h _ (σ.up (tk := s.toks) hu hs ?_)
  rw [ho]
  simp
theorem r_pop {a : Addr} {p : List Value} {y : Value} {n : Nat} {Q : Value → Shared → Prop} (σ : Sx K mg mb os gs g L l news s) (hu : Up a (listOf (p ++ [y]).toArray n) (listOf p.toArray (n + 1)) news news')
    (hz : p.length < sizeLine) (h : ∀ s', Sx K mg mb os gs g L l news' s' → Q y s') :
    wpAny (model prog w) A (call (.builtin "list.pop") [.ref a]) Q E s := by
  have hz' : (p ++ [y]).toArray.size ≤ sizeLine := by rw [List.size_toArray, List.length_append]; exact hz
  have hk : (p ++ [y]).toArray.size - 1 = p.length := by rw [List.size_toArray, List.length_append]; rfl
  have hy : (p ++ [y]).toArray[(p ++ [y]).toArray.size - 1]? = some y := by rw [hk]; simp
  refine call_meets PySem.F.slot_list_pop ⟨_, σ.get hu.mem, rfl⟩ PySem.F.entry_list_pop (PySem.F.args_list_pop_1 _) (PySem.MeetsSeq.list_pop_last a _ n y hy hz') ⟨σ.get hu.mem, h _ ?_⟩
  refine σ.up (tk := s.toks) hu (Heap.SameBut.update ..) ?_
  have q := PySem.IsL.update (σ.get hu.mem) (fun xs => xs.eraseIdxIfInBounds ((p ++ [y]).toArray.size - 1))
  have e : (p ++ [y]).toArray.eraseIdxIfInBounds ((p ++ [y]).toArray.size - 1) = p.toArray := by rw [hk, kl_erase, List.append_nil]
  rw [e, if_neg (by rw [List.size_toArray, List.size_toArray, List.length_append]; simp)] at q
  exact q
/-- a method of a list of the ledger -/
theorem r_meth {o : Expr} {name : Str} {apos pos : Pos} {args : List Expr} {a : Addr} {its : Array Value} {n : Nat} {id : String} {Q : Value → Shared → Prop} {pl : Sem Bool} (σ : Sx K mg mb os gs g L l news s) (hm : (a, listOf its n) ∈ news) (slot : Slot "list" name id) (hty : typeOf (.builtin id) = pure (.type "method_descriptor"))
    (hov : wpAny (model prog w) A (eval o env) (fun v s₁ => v = .ref a ∧ s₁ = s) E s)
    (h : wpAny (model prog w) A (callWith pos (.builtin id) [.ref a] (backTo pos (starEach args env)) []) Q E s)
    (he : eval (.Call (.Attribute o name apos) args [] pos) env = (do
      let ov ← eval o env
      standAt apos.atName
      let (f, first) ← holding [ov] (getMethod ov name pl)
      callWith pos f first (backTo pos (starEach args env)) []) := by rfl) :
    wpAny (model prog w) A (eval (.Call (.Attribute o name apos) args [] pos) env) Q E s := by
  refine MethodCall_ (wpAny_mono hov (fun v s₁ e => ?_) fun _ _ x => x) he
  obtain ⟨rfl, rfl⟩ := e
  exact getMethod_builtin ⟨_, σ.get hm, rfl⟩ PySem.F.plainAttrs_list slot hty (fun _ e => by cases e; exact ⟨_, σ.get hm, rfl⟩) h
theorem r_with1 {pos : Pos} {id : String} {v : Value} {e : Expr} {Q : Value → Shared → Prop} (h : wpAny (model prog w) A (eval e env) (fun x s₁ => wpAny (model prog w) A (call (.builtin id) [v, x]) Q E s₁) E s)
    (hp : (backTo pos (starEach [e] env)).any (·.1) = false := by rfl) (hs : starEach [e] env = [(false, eval e env)] := by rfl) :
    wpAny (model prog w) A (callWith pos (.builtin id) [v] (backTo pos (starEach [e] env)) []) Q E s := by
  refine callWith_builtin hp ?_
  rw [hs]
  exact evalArgs_plain (spliced_cons (wpAny_mono h (fun x s₁ h₁ => spliced_nil h₁) fun _ _ x => x))
theorem r_with0 {pos : Pos} {id : String} {v : Value} {Q : Value → Shared → Prop} (h : wpAny (model prog w) A (call (.builtin id) [v]) Q E s) :
    wpAny (model prog w) A (callWith pos (.builtin id) [v] (backTo pos (starEach [] env)) []) Q E s := callWith_builtin rfl (evalArgs_nil3 h)
end
end Mine
end
section
open PySem PySem.W PyProof.Rows PySem.Calls
set_option maxRecDepth 100000
namespace Mine
section
variable {prog : Program} {w : World} {A : Around} {E : Value → Shared → Prop}
  {K : Frag} {mg mb : Str → Option Value} {os : OsState} {gs : Array GenState} {g : Heap} {L : Addr} {l l' : List (Str × Value)} {news news' : List (Addr × Obj)} {s : Shared} {env : Env}

theorem noE {M : Model} {A : Around} {α : Type} {t : Sem α} {Q : α → Shared → Prop} {E : Value → Shared → Prop} {s : Shared} (h : wpAny M A t Q (fun _ _ => False) s) : wpAny M A t Q E s :=
  wpAny_mono h (fun _ _ x => x) fun _ _ x => x.elim
theorem r_while {test : Expr} {body : List Stmt} {pos : Pos} {Q : Flow → Shared → Prop} (J : Nat → Shared → Prop)
    (turn : ∀ n s, J n s → wpAny (model prog w) A (isTrue test env (eval test env)) (fun b s₂ =>
        if b then wpAny (model prog w) A (execs body env) (fun f s₃ => match f with
            | .next | .cont => ∃ m, m < n ∧ J m s₃
            | .brk => Q .next s₃
            | .ret v => Q (.ret v) s₃) (fun _ _ => False) s₂
        else Q .next s₂) (fun _ _ => False) s)
    (n : Nat) (h : J n s) : wpAny (model prog w) A (exec (.While test body [] pos) env) Q E s := by
  refine wpAny_While (codeAny_whileLoop J (fun n s hJ => ?_) n h)
  refine wpAny_mono (turn n s hJ) (fun b s₂ h₂ => ?_) fun _ _ x => x.elim
  cases b with
  | true =>
    simp only [if_true] at h₂ ⊢
    exact wpAny_mono h₂ (fun f s₃ h₃ => by cases f <;> exact h₃) fun _ _ x => x.elim
  | false => exact wpAny_execs_nil h₂

theorem r_seq {M : Model} {st : Stmt} {rest : List Stmt} {Q : Flow → Shared → Prop} (I : Shared → Prop) (h1 : wpAny M A (exec st env) (fun f s' => f = .next ∧ I s') E s) (h2 : ∀ s', I s' → wpAny M A (execs rest env) Q E s') : wpAny M A (execs (st :: rest) env) Q E s :=
  wpAny_execs_cons (wpAny_mono h1 (fun f s' h => by obtain ⟨rfl, h⟩ := h; exact h2 s' h) fun _ _ x => x)
def Cmp (prog : Program) (w : World) (K : Frag) (mg mb : Str → Option Value) (os : OsState) (gs : Array GenState) (g : Heap) (lt : Value → Value → Bool) (x y : Value) : Prop :=
  ∀ (A : Around) (L : Addr) (l : List (Str × Value)) (news : List (Addr × Obj)) (s : Shared) (Q : Value → Shared → Prop) (E : Value → Shared → Prop), Room A 0 → Sx K mg mb os gs g L l news s →
    (∀ s', Sx K mg mb os gs g L l news s' → Q (.bool (lt x y)) s') → wpAny (model prog w) A (compareOp .Lt x y) Q E s

def sdL (lt : Value → Value → Bool) (x : Value) : Nat → List Value → Nat → List Value × Nat
  | 0, vs, p => (vs, p)
  | f + 1, vs, p => if p = 0 then (vs, p) else if lt x (vs.getD ((p - 1) / 2) .none) then sdL lt x f (vs.set p (vs.getD ((p - 1) / 2) .none)) ((p - 1) / 2) else (vs, p)
theorem sdL_step (lt : Value → Value → Bool) (x : Value) (f : Nat) (vs : List Value) (p : Nat) (h : p ≠ 0) : sdL lt x (f + 1) vs p = if lt x (vs.getD ((p - 1) / 2) .none) then sdL lt x f (vs.set p (vs.getD ((p - 1) / 2) .none)) ((p - 1) / 2) else (vs, p) := by
  rw [sdL, if_neg h]
def sdn (lt : Value → Value → Bool) (vs : List Value) (p : Nat) : List Value := (sdL lt (vs.getD p .none) p vs p).1.set (sdL lt (vs.getD p .none) p vs p).2 (vs.getD p .none)
theorem sdL_len (lt : Value → Value → Bool) (x : Value) : ∀ (f : Nat) (vs : List Value) (p : Nat), (sdL lt x f vs p).1.length = vs.length
  | 0, _, _ => rfl
  | f + 1, vs, p => by
    unfold sdL
    split
    · rfl
    · split
      · rw [sdL_len lt x f, List.length_set]
      · rfl
theorem sdn_len (lt : Value → Value → Bool) (vs : List Value) (p : Nat) : (sdn lt vs p).length = vs.length := by
  unfold sdn; rw [List.length_set, sdL_len]
end
end Mine
end
section
open PySem PySem.W PyProof.Rows PySem.Calls
set_option maxRecDepth 100000
namespace Mine
section
variable {prog : Program} {w : World} {A : Around} {E : Value → Shared → Prop}
  {K : Frag} {mg mb : Str → Option Value} {os : OsState} {gs : Array GenState} {g : Heap} {L : Addr} {l l' : List (Str × Value)} {news news' : List (Addr × Obj)} {s : Shared} {env : Env}

theorem r_mul {a b : Int} {t u : Tok} {Q : Value → Shared → Prop} (σ : Sx K mg mb os gs g L l news s) (hm : IntMulOk a b) (h : ∀ t s', Sx K mg mb os gs g L l news s' → Q (.int (a * b) t) s') :
    wpAny (model prog w) A (binaryOp .Mult (.int a t) (.int b u)) Q E s := PyProof.Rows.mul_int (hm := hm) (h _ _ (σ.tok _))
theorem r_imul {a b : Int} {t u : Tok} {Q : Value → Shared → Prop} (σ : Sx K mg mb os gs g L l news s) (hm : IntMulOk a b) (h : ∀ t s', Sx K mg mb os gs g L l news s' → Q (.int (a * b) t) s') :
    wpAny (model prog w) A (inplaceOp .Mult (.int a t) (.int b u)) Q E s := PyProof.Rows.imul_int (hm := hm) (h _ _ (σ.tok _))
theorem r_isub {a b : Int} {t u : Tok} {Q : Value → Shared → Prop} (σ : Sx K mg mb os gs g L l news s) (h : ∀ t s', Sx K mg mb os gs g L l news s' → Q (.int (a - b) t) s') :
    wpAny (model prog w) A (inplaceOp .Sub (.int a t) (.int b u)) Q E s := PyProof.Rows.isub_int (h _ _ (σ.tok _))
theorem r_mod {a b : Int} {t u : Tok} {Q : Value → Shared → Prop} (σ : Sx K mg mb os gs g L l news s) (hb : b ≠ 0) (h : ∀ t s', Sx K mg mb os gs g L l news s' → Q (.int (a.fmod b) t) s') :
    wpAny (model prog w) A (binaryOp .Mod (.int a t) (.int b u)) Q E s := mod_int' hb (h _ _ (σ.tok _))
theorem r_div {a b : Int} {t u : Tok} {Q : Value → Shared → Prop} (σ : Sx K mg mb os gs g L l news s) (hb : b ≠ 0) (hp : Builtin.divisionGoesByPylong a b = false) (h : ∀ t s', Sx K mg mb os gs g L l news s' → Q (.int (a.fdiv b) t) s') :
    wpAny (model prog w) A (binaryOp .FloorDiv (.int a t) (.int b u)) Q E s := floordiv_int hb (h _ _ (σ.tok _)) (hp := .inl hp)
theorem r_pow {a n : Int} {t u : Tok} {Q : Value → Shared → Prop} (σ : Sx K mg mb os gs g L l news s) (hn : 0 ≤ n) (hz : (Builtin.Int.intBits a : Int) * n ≤ 2 ^ 27) (h : ∀ t s', Sx K mg mb os gs g L l news s' → Q (.int (a ^ n.toNat) t) s') :
    wpAny (model prog w) A (binaryOp .Pow (.int a t) (.int n u)) Q E s := pow_int hn hz (h _ _ (σ.tok _))
theorem r_and {a b : Int} {t u : Tok} {Q : Value → Shared → Prop} (σ : Sx K mg mb os gs g L l news s) (h : ∀ t s', Sx K mg mb os gs g L l news s' → Q (.int (Builtin.bitAnd a b) t) s') :
    wpAny (model prog w) A (binaryOp .BitAnd (.int a t) (.int b u)) Q E s := and_int (h _ _ (σ.tok _))
theorem r_eq {a b : Int} {t u : Tok} {Q : Value → Shared → Prop} (h : Q (.bool (a == b)) s) : wpAny (model prog w) A (compareOp .Eq (.int a t) (.int b u)) Q E s := PyProof.Rows.eq_int h
theorem r_ne {a b : Int} {t u : Tok} {Q : Value → Shared → Prop} (h : Q (.bool (a != b)) s) : wpAny (model prog w) A (compareOp .NotEq (.int a t) (.int b u)) Q E s := PyProof.Rows.ne_int h
theorem r_truth {a : Addr} {its : Array Value} {n : Nat} {Q : Bool → Shared → Prop} (σ : Sx K mg mb os gs g L l news s) (hm : (a, listOf its n) ∈ news) (hf : (its.size : Int) < 2 ^ 63)
    (h : ∀ s', Sx K mg mb os gs g L l news s' → Q (!its.isEmpty) s') : wpAny (model prog w) A (truthy (.ref a)) Q E s := wpAny_truthy_list (isL σ hm) hf (h _ (σ.tok _))
theorem r_and1 {x y : Expr} {pos : Pos} {whole : Sem Value} {Q : Bool → Shared → Prop}
    (h : wpAny (model prog w) A (isTrue x env (eval x env)) (fun c s' => if c then wpAny (model prog w) A (isTrue y env (eval y env)) (fun d s'' => Q d s'') E s' else Q false s') E s) :
    wpAny (model prog w) A (isTrue (.BoolOp .And [x, y] pos) env whole) Q E s := by
  refine isTrue_and (wpAny_mono h (fun c s' h' => ?_) fun _ _ x => x)
  cases c with
  | false => exact h'
  | true =>
    simp only [if_true] at h' ⊢
    refine isTrue_and (wpAny_mono h' (fun d s'' h'' => ?_) fun _ _ x => x)
    cases d with
    | false => exact h''
    | true => exact isTrue_and_nil h''
theorem r_or1 {x y : Expr} {pos : Pos} {whole : Sem Value} {Q : Bool → Shared → Prop}
    (h : wpAny (model prog w) A (isTrue x env (eval x env)) (fun c s' => if c then Q true s' else wpAny (model prog w) A (isTrue y env (eval y env)) (fun d s'' => Q d s'') E s') E s) :
    wpAny (model prog w) A (isTrue (.BoolOp .Or [x, y] pos) env whole) Q E s := by
  refine isTrue_or (wpAny_mono h (fun c s' h' => ?_) fun _ _ x => x)
  cases c with
  | true => exact h'
  | false =>
    simp only [Bool.false_eq_true, if_false] at h' ⊢
    refine isTrue_or (wpAny_mono h' (fun d s'' h'' => ?_) fun _ _ x => x)
    cases d with
    | true => exact h''
    | false => exact isTrue_or_nil h''

def suL (lt : Value → Value → Bool) : Nat → List Value → Nat → List Value × Nat
  | 0, vs, p => (vs, p)
  | f + 1, vs, p => if 2 * p + 1 < vs.length then
      (if 2 * p + 2 < vs.length ∧ lt (vs.getD (2 * p + 1) .none) (vs.getD (2 * p + 2) .none) = false then suL lt f (vs.set p (vs.getD (2 * p + 2) .none)) (2 * p + 2) else suL lt f (vs.set p (vs.getD (2 * p + 1) .none)) (2 * p + 1))
    else (vs, p)
theorem suL_end (lt : Value → Value → Bool) (f : Nat) (vs : List Value) (p : Nat) (h : ¬ 2 * p + 1 < vs.length) : suL lt f vs p = (vs, p) := by
  cases f with
  | zero => rfl
  | succ f => rw [suL, if_neg h]
theorem suL_right (lt : Value → Value → Bool) (f : Nat) (vs : List Value) (p : Nat) (h : 2 * p + 1 < vs.length) (h2 : 2 * p + 2 < vs.length) (h3 : lt (vs.getD (2 * p + 1) .none) (vs.getD (2 * p + 2) .none) = false) :
    suL lt (f + 1) vs p = suL lt f (vs.set p (vs.getD (2 * p + 2) .none)) (2 * p + 2) := by
  rw [suL, if_pos h, if_pos ⟨h2, h3⟩]
theorem suL_left (lt : Value → Value → Bool) (f : Nat) (vs : List Value) (p : Nat) (h : 2 * p + 1 < vs.length) (h2 : ¬ (2 * p + 2 < vs.length ∧ lt (vs.getD (2 * p + 1) .none) (vs.getD (2 * p + 2) .none) = false)) :
    suL lt (f + 1) vs p = suL lt f (vs.set p (vs.getD (2 * p + 1) .none)) (2 * p + 1) := by
  rw [suL, if_pos h, if_neg h2]
def sup (lt : Value → Value → Bool) (vs : List Value) : List Value := sdn lt ((suL lt vs.length vs 0).1.set (suL lt vs.length vs 0).2 (vs.getD 0 .none)) (suL lt vs.length vs 0).2
def hpush (lt : Value → Value → Bool) (vs : List Value) (v : Value) : List Value := sdn lt (vs ++ [v]) vs.length
def hpop (lt : Value → Value → Bool) (p : List Value) (y : Value) : Value × List Value := match p with
  | [] => (y, [])
  | x :: r => (x, sup lt (y :: r))
theorem getD_some {vs : List Value} {p : Nat} (hp : p < vs.length) : vs[p]? = some (vs.getD p .none) := by
  rw [List.getD_eq_getElem?_getD, List.getElem?_eq_getElem hp]; rfl
theorem getD_arr {vs : List Value} {p : Nat} (hp : p < vs.length) : vs.toArray[p]? = some (vs.getD p .none) := List.getElem?_toArray.trans (getD_some hp)
theorem getD_mem {vs : List Value} {p : Nat} (hp : p < vs.length) : vs.getD p .none ∈ vs := List.mem_of_getElem? (getD_some hp)
theorem sdL_mem (lt : Value → Value → Bool) (x : Value) (P : Value → Prop) : ∀ (f : Nat) (vs : List Value) (p : Nat), p < vs.length → (∀ v ∈ vs, P v) → ∀ v ∈ (sdL lt x f vs p).1, P v
  | 0, _, _, _, h => h
  | f + 1, vs, p, hp, h => by
    unfold sdL
    split
    · exact h
    · split
      · refine sdL_mem lt x P f _ _ (by rw [List.length_set]; omega) fun v hv => (List.mem_or_eq_of_mem_set hv).elim (h v) fun e => e ▸ h _ (getD_mem (by omega))
      · exact h
theorem sdn_mem (lt : Value → Value → Bool) (P : Value → Prop) (vs : List Value) (p : Nat) (hp : p < vs.length) (h : ∀ v ∈ vs, P v) : ∀ v ∈ sdn lt vs p, P v := fun v hv =>
  (List.mem_or_eq_of_mem_set hv).elim (sdL_mem lt _ P _ _ _ hp h v) fun e => e ▸ h _ (getD_mem hp)
theorem suL_spec (lt : Value → Value → Bool) (P : Value → Prop) : ∀ (f : Nat) (vs : List Value) (p : Nat), p < vs.length → (∀ v ∈ vs, P v) → (suL lt f vs p).1.length = vs.length ∧ (suL lt f vs p).2 < vs.length ∧ ∀ v ∈ (suL lt f vs p).1, P v
  | 0, _, _, hp, h => ⟨rfl, hp, h⟩
  | f + 1, vs, p, hp, h => by
    unfold suL
    split
    · split
      · have z := suL_spec lt P f (vs.set p (vs.getD (2 * p + 2) .none)) (2 * p + 2) (by rw [List.length_set]; omega) fun v hv => (List.mem_or_eq_of_mem_set hv).elim (h v) fun e => e ▸ h _ (getD_mem (by omega))
        rw [List.length_set] at z; exact z
      · have z := suL_spec lt P f (vs.set p (vs.getD (2 * p + 1) .none)) (2 * p + 1) (by rw [List.length_set]; omega) fun v hv => (List.mem_or_eq_of_mem_set hv).elim (h v) fun e => e ▸ h _ (getD_mem (by omega))
        rw [List.length_set] at z; exact z
    · exact ⟨rfl, hp, h⟩
theorem sup_len (lt : Value → Value → Bool) (vs : List Value) (h : 0 < vs.length) : (sup lt vs).length = vs.length := by
  unfold sup; rw [sdn_len, List.length_set]; exact (suL_spec lt (fun _ => True) _ vs 0 h fun _ _ => trivial).1
theorem sup_mem (lt : Value → Value → Bool) (P : Value → Prop) (vs : List Value) (h0 : 0 < vs.length) (h : ∀ v ∈ vs, P v) : ∀ v ∈ sup lt vs, P v := by
  obtain ⟨a, b, c⟩ := suL_spec lt P vs.length vs 0 h0 h
  exact sdn_mem lt P _ _ (by rw [List.length_set]; omega) fun v hv => (List.mem_or_eq_of_mem_set hv).elim (c v) fun e => e ▸ h _ (getD_mem h0)
theorem hpush_len (lt : Value → Value → Bool) (vs : List Value) (v : Value) : (hpush lt vs v).length = vs.length + 1 := by unfold hpush; rw [sdn_len]; simp
theorem hpush_mem (lt : Value → Value → Bool) (P : Value → Prop) (vs : List Value) (v : Value) (h : ∀ x ∈ vs, P x) (hv : P v) : ∀ x ∈ hpush lt vs v, P x :=
  sdn_mem lt P _ _ (by simp) fun x hx => by
    rcases List.mem_append.mp hx with z | z
    · exact h x z
    · rw [List.mem_singleton.mp z]; exact hv
end
end Mine
end
section
open PySem PySem.W PyProof.Rows PySem.Calls
set_option maxRecDepth 100000
namespace Mine
section
variable {prog : Program} {w : World} {A : Around} {E : Value → Shared → Prop}
  {K : Frag} {mg mb : Str → Option Value} {os : OsState} {gs : Array GenState} {g : Heap} {L : Addr} {l l' : List (Str × Value)} {news news' : List (Addr × Obj)} {s : Shared} {env : Env}

/-- the objects at some places -/
theorem objs_at {h : Heap} : ∀ (wr : List Addr), (∀ b ∈ wr, ∃ o, h.get? b = some o) → ∃ own : List (Addr × Obj), own.map (·.1) = wr ∧ ∀ p ∈ own, h.get? p.1 = some p.2
  | [], _ => ⟨[], rfl, fun _ h => by cases h⟩
  | b :: r, hb => by
    obtain ⟨o, ho⟩ := hb b (.head _)
    obtain ⟨own, e, k⟩ := objs_at r fun c hc => hb c (.tail _ hc)
    refine ⟨(b, o) :: own, by rw [List.map_cons, e], fun p hp => ?_⟩
    cases hp with
    | head => exact ho
    | tail _ hp => exact k p hp

/-- a step that turns the objects at wr alone, which the ledger holds at its front -/
theorem Sx.turnW {own own' : List (Addr × Obj)} (σ : Sx K mg mb os gs g L l (own ++ news) s) (he : own'.map (·.1) = own.map (·.1)) {h' : Heap} {tk : Nat}
    (hk : ∀ b o, b ∉ own.map (·.1) → s.heap.get? b = some o → h'.get? b = some o) (ho : ∀ p ∈ own', h'.get? p.1 = some p.2) : Sx K mg mb os gs g L l (own' ++ news) { s with heap := h', toks := tk } := by
  have nd := σ.nd
  rw [List.map_append] at nd
  have nd' := nd
  rw [List.nodup_append] at nd'
  obtain ⟨oL, hoL, n⟩ := σ.ns
  have nL : L ∉ own.map (·.1) := fun q => by
    obtain ⟨p, hp, e⟩ := List.mem_map.mp q
    exact (σ.nw p (List.mem_append_left _ hp)).2.1 e
  refine ⟨⟨oL, hk _ _ nL hoL, n⟩, fun b o e => hk b o (fun q => ?_) (σ.keep b o e), σ.gL, fun p hp => ?_, by rw [List.map_append, he]; exact nd, σ.t, σ.os, σ.gs⟩
  · obtain ⟨p, hp, rfl⟩ := List.mem_map.mp q
    rw [(σ.nw p (List.mem_append_left _ hp)).2.2] at e; cases e
  · rcases List.mem_append.mp hp with z | z
    · have hm : p.1 ∈ own.map (·.1) := he ▸ List.mem_map_of_mem z
      obtain ⟨q, hq, e⟩ := List.mem_map.mp hm
      have y := σ.nw q (List.mem_append_left _ hq)
      rw [e] at y
      exact ⟨ho p z, y.2⟩
    · have y := σ.nw p (List.mem_append_right _ z)
      exact ⟨hk _ _ (fun q => nd'.2.2 p.1 q p.1 (List.mem_map_of_mem z) rfl) y.1, y.2⟩
theorem Sx.dropW {own : List (Addr × Obj)} (σ : Sx K mg mb os gs g L l (own ++ news) s) : Sx K mg mb os gs g L l news s := by
  have nd := σ.nd
  rw [List.map_append, List.nodup_append] at nd
  exact σ.led (fun _ hp => List.mem_append_right _ hp) nd.2.1

theorem r_forL {α : Type} {n : Nat} {target : Expr} {body orelse : List Stmt} {I : Addr} {fp wr : List Addr} {P Md : Nat → Value → Heap → Prop} {St : Nat → Heap → Prop} {Q : Flow → Shared → Prop}
    (W : KTurns prog w A target I fp wr n P Md St) (alive : ∀ i h, St i h → ∀ b ∈ wr, ∃ o, h.get? b = some o)
    (C : Nat → α → Prop) (gh : α → Heap) (loc : α → List (Str × Value)) (led : α → List (Addr × Obj)) (x₀ : α) (own₀ : List (Addr × Obj))
    (h0 : C 0 x₀) (hw : own₀.map (·.1) = wr) (σ : Sx K mg mb os gs (gh x₀) L (loc x₀) (own₀ ++ led x₀) s) (hst : St 0 s.heap)
    (hfp : ∀ b ∈ fp, b ∈ wr ∨ ∃ o, g.get? b = some o) (hg : ∀ i x, C i x → Sub g (gh x))
    (turn : ∀ i x own v s₁, i < n → C i x → P i v s₁.heap → own.map (·.1) = wr → Sx K mg mb os gs (gh x) L (loc x) (own ++ led x) s₁ →
      wpAny (model prog w) A (assign target env v) (fun _ s₂ => wpAny (model prog w) A (execs body env) (fun f s₃ => match f with
        | .next | .cont => ∃ x', C (i + 1) x' ∧ Sx K mg mb os gs (gh x') L (loc x') (own ++ led x') s₃
        | .brk => Q .next s₃
        | .ret v => Q (.ret v) s₃) (fun _ _ => False) s₂) (fun _ _ => False) s₁)
    (done : ∀ x s', C n x → Sx K mg mb os gs (gh x) L (loc x) (led x) s' → wpAny (model prog w) A (execs orelse env) Q (fun _ _ => False) s') :
    codeAny (model prog w) A (.forLoop target (.ref I) body orelse env) (fun r s' => match r with | .ok f => Q f s' | .error e => cameBackBy (model prog w) A env E e s') s := by
  refine codeAny_forLoop_any (fun k s' => ∃ i x own, C i x ∧ own.map (·.1) = wr ∧ Sx K mg mb os gs (gh x) L (loc x) (own ++ led x) s' ∧ St i s'.heap ∧ i ≤ n ∧ k = n + 1 - i) ?_ (n + 1) ⟨0, x₀, own₀, h0, hw, σ, hst, Nat.zero_le _, rfl⟩
  rintro k s' ⟨i, x, own, hC, hw', τ, st, hi, rfl⟩
  by_cases hlt : i < n
  · refine W.item i s' _ _ hlt st fun v h₁ tk₁ hMd hk₁ => ?_
    refine W.go i v _ _ _ hMd fun h₂ hP st₂ hk₂ => ?_
    obtain ⟨own', e', ho'⟩ := objs_at wr (alive _ _ st₂)
    have τ' : Sx K mg mb os gs (gh x) L (loc x) (own' ++ led x) { s' with heap := h₂, toks := tk₁ } := τ.turnW (e'.trans hw'.symm) (fun b o hb e => hk₂ b o (hw' ▸ hb) (hk₁ b o (hw' ▸ hb) e)) ho'
    refine wpAny_mono (turn i x own' v _ hlt hC hP e' τ') (fun _ s₂ h₂' => wpAny_mono h₂' (fun f s₃ h₃ => ?_) fun _ _ z => z.elim) fun _ _ z => z.elim
    have go : (∃ x', C (i + 1) x' ∧ Sx K mg mb os gs (gh x') L (loc x') (own' ++ led x') s₃) → ∃ m, m < n + 1 - i ∧ ∃ i x own, C i x ∧ own.map (·.1) = wr ∧ Sx K mg mb os gs (gh x) L (loc x) (own ++ led x) s₃ ∧ St i s₃.heap ∧ i ≤ n ∧ m = n + 1 - i := by
      rintro ⟨x', hC', τ₃⟩
      refine ⟨n + 1 - (i + 1), by omega, i + 1, x', own', hC', e', τ₃, W.frame _ _ _ st₂ fun b hb o e => ?_, hlt, rfl⟩
      rcases hfp b hb with z | ⟨o₀, z⟩
      · obtain ⟨p, hp, rfl⟩ := List.mem_map.mp (e' ▸ z : b ∈ own'.map (·.1))
        have y := ho' p hp
        rw [e] at y
        cases y
        exact (τ₃.nw p (List.mem_append_left _ hp)).1
      · have y1 := τ'.keep b o₀ (hg _ _ hC b o₀ z)
        have y2 := τ₃.keep b o₀ (hg _ _ hC' b o₀ z)
        have y1' : h₂.get? b = some o₀ := y1
        rw [e] at y1'
        cases y1'
        exact y2
    cases f with
    | ret v => exact h₃
    | brk => exact h₃
    | cont => exact go h₃
    | next => exact go h₃
  · have hin : i = n := by omega
    subst hin
    refine W.done s' _ _ st fun h₁ tk₁ hk₁ => ?_
    have nd := τ.nd
    rw [List.map_append, List.nodup_append] at nd
    obtain ⟨oL, hoL, nn⟩ := τ.ns
    have nL : L ∉ wr := fun q => by
      obtain ⟨p, hp, e⟩ := List.mem_map.mp (hw' ▸ q : L ∈ own.map (·.1))
      exact (τ.nw p (List.mem_append_left _ hp)).2.1 e
    have fin : Sx K mg mb os gs (gh x) L (loc x) (led x) { s' with heap := h₁, toks := tk₁ } := by
      refine ⟨⟨oL, hk₁ _ _ nL hoL, nn⟩, fun b o e => hk₁ b o (fun q => ?_) (τ.keep b o e), τ.gL, fun p hp => ?_, nd.2.1, τ.t, τ.os, τ.gs⟩
      · obtain ⟨p, hp, rfl⟩ := List.mem_map.mp (hw' ▸ q : b ∈ own.map (·.1))
        rw [(τ.nw p (List.mem_append_left _ hp)).2.2] at e; cases e
      · have y := τ.nw p (List.mem_append_right _ hp)
        exact ⟨hk₁ _ _ (fun q => nd.2.2 p.1 (hw' ▸ q) p.1 (List.mem_map_of_mem hp) rfl) y.1, y.2⟩
    exact wpAny_mono (done x _ hC fin) (fun _ _ z => z) fun _ _ z => z.elim

theorem go_name {x : Str} {p : Pos} (it v : Value) : letOwnedTupleGo (.Name x p) it v = pure () := rfl
theorem turns_name {x : Str} {p : Pos} {I : Addr} {fp wr : List Addr} {n : Nat} {P : Nat → Value → Prop} {St : Nat → Heap → Prop} (W : Walks prog w A I fp wr n P St) :
    KTurns prog w A (.Name x p) I fp wr n (fun i v _ => P i v) (fun i v h => P i v ∧ St (i + 1) h) St := .ofWalks W fun _ v _ _ _ _ hq => wpAny_of_eq (go_name _ v) hq

/-- for x in a range that stands -/
theorem r_forR {α : Type} {n : Nat} {x : Str} {px pos : Pos} {body orelse : List Stmt} {iter : Expr} {a c : Int} {Q : Flow → Shared → Prop} (ρ : Room A 0)
    (C : Nat → α → Prop) (gh : α → Heap) (loc : α → List (Str × Value)) (led : α → List (Addr × Obj)) (x₀ : α) (h0 : C 0 x₀) (hg : ∀ i x, C i x → Sub g (gh x))
    (he : wpAny (model prog w) A (eval iter env) (fun xv s₁ => wpAny (model prog w) A (pyIter xv) (fun it s₂ => ∃ I, it = .ref I ∧ IsRangeIter s₂.heap I a n c ∧ Sx K mg mb os gs (gh x₀) L (loc x₀) ([(I, ({ cls := .type "range_iterator", data := .fields #[rawInt a, rawInt n, rawInt c] } : Obj))] ++ led x₀) s₂) (fun _ _ => False) s₁) (fun _ _ => False) s)
    (turn : ∀ i x' own t s₁, i < n → C i x' → Sx K mg mb os gs (gh x') L (loc x') (own ++ led x') s₁ →
      wpAny (model prog w) A (storeName env x (.int (a + i * c) t)) (fun _ s₂ => wpAny (model prog w) A (execs body env) (fun f s₃ => match f with
        | .next | .cont => ∃ x'', C (i + 1) x'' ∧ Sx K mg mb os gs (gh x'') L (loc x'') (own ++ led x'') s₃
        | .brk => Q .next s₃
        | .ret v => Q (.ret v) s₃) (fun _ _ => False) s₂) (fun _ _ => False) s₁)
    (done : ∀ x s', C n x → Sx K mg mb os gs (gh x) L (loc x) (led x) s' → wpAny (model prog w) A (execs orelse env) Q (fun _ _ => False) s')
    (hs : ∀ x, foldedSetIterable iter env x = pure x := by intro _; rfl) :
    wpAny (model prog w) A (exec (.For (.Name x px) iter body orelse pos) env) Q E s := by
  refine wpAny_For (wpAny_mono he (fun xv s₁ h₁ => wpAny_mono h₁ (fun it s₂ h₂ => ?_) fun _ _ z => z.elim) fun _ _ z => z.elim) hs
  obtain ⟨I, rfl, hit, σ⟩ := h₂
  refine r_forL (turns_name (Walks.range (w := w) (prog := prog) ρ.hh I a c n)) (fun i h st b hb => ?_) C gh loc led x₀ _ h0 rfl σ ?_ (g := g) (fun b hb => .inl hb) hg (fun i x' own v s₁ hi hC hP _ τ => ?_) done
  · rw [List.mem_singleton.mp hb]; exact ⟨_, st⟩
  · simpa using hit
  · obtain ⟨t, rfl⟩ := hP
    exact wpAny_assign_Name (turn i x' own t s₁ hi hC τ)
end
end Mine
end
section
open PySem PySem.W PyProof.Rows PySem.Calls
set_option maxRecDepth 100000
namespace Mine
section
variable {prog : Program} {w : World} {A : Around} {E : Value → Shared → Prop}
  {K : Frag} {mg mb : Str → Option Value} {os : OsState} {gs : Array GenState} {g : Heap} {L : Addr} {l l' : List (Str × Value)} {news news' : List (Addr × Obj)} {s : Shared} {env : Env}

theorem r_fnT {x : Str} {np pos : Pos} {T : String} {e : Expr} {rest : List Expr} {Q : Value → Shared → Prop} (σ : Sx K mg mb os gs g L l news s)
    (en : nsIn K mainGlobals x = some none) (hv : bootBuiltins x = some (.type T))
    (h : wpAny (model prog w) A (spliced (backTo pos (starEach (e :: rest) env))) (fun vs s₁ => wpAny (model prog w) A (call (.type T) vs) Q E s₁) E s)
    (hp : (backTo pos (starEach (e :: rest) env)).any (·.1) = false := by rfl)
    (hs : starEach (e :: rest) env = (false, eval e env) :: starEach rest env := by rfl)
    (hn : x ≠ "__name__" := by decide) (hG : env.globals = mainGlobals := by rfl) (hB : env.builtins = builtinsNs := by rfl) (hk : env.scope.kind = .function := by rfl) (hx : env.kindOf x = some .globalImplicit := by rfl) (hd : (x == ("__debug__" : Str)) = false := by decide) :
    wpAny (model prog w) A (eval (.Call (.Name x np) (e :: rest) [] pos) env) Q E s := by
  refine Call_Name rfl (r_built σ en hv ?_ hn hG hB hk hx hd)
  refine PyProof.Rows.callWith_type hp ?_
  rw [hs] at h ⊢
  exact evalArgs_plain h

abbrev rngIt (a : Int) (n : Nat) (c : Int) : Obj := { cls := .type "range_iterator", data := .fields #[rawInt a, rawInt n, rawInt c] }
theorem rng_core {r : Addr} {a b c : Int} {t u v : Tok} {n : Nat} (σ : Sx K mg mb os gs g L l news s) (hr : IsRange s.heap r a b c t u v) (hsm : Builtin.Range.small a b c = true) (hn : Builtin.Range.rangeSize a b c = (n : Int)) :
    wpAny (model prog w) A (pyIter (.ref r)) (fun it s₂ => ∃ I, it = .ref I ∧ IsRangeIter s₂.heap I a n c ∧ Sx K mg mb os gs g L l ([(I, rngIt a n c)] ++ news) s₂) (fun _ _ => False) s := by
  refine wpAny_pyIter_range hr hsm ⟨_, rfl, ?_, ?_⟩
  · rw [hn]; exact Heap.get?_push_size _ rfl
  · rw [hn]; exact σ.push _
theorem r_rng1 {b : Int} {t : Tok} {n : Nat} (σ : Sx K mg mb os gs g L l news s) (h1 : -(2 ^ 62) ≤ b) (h2 : b < 2 ^ 62) (hn : b.toNat = n) :
    wpAny (model prog w) A (call (.type "range") [.int b t]) (fun xv s₁ => wpAny (model prog w) A (pyIter xv) (fun it s₂ => ∃ I, it = .ref I ∧ IsRangeIter s₂.heap I 0 n 1 ∧ Sx K mg mb os gs g L l ([(I, rngIt 0 n 1)] ++ news) s₂) (fun _ _ => False) s₁) (fun _ _ => False) s := by
  refine call_range_1 (rng_core (s := _) ((σ.push _).tok _).drop1 (IsRange.new ..) (small_one (by decide) (by decide) h1 h2) ?_)
  rw [rangeSize_one]; split <;> omega
theorem r_rng2 {a b : Int} {t u : Tok} {n : Nat} (σ : Sx K mg mb os gs g L l news s) (h1 : -(2 ^ 62) ≤ a) (h2 : a < 2 ^ 62) (h3 : -(2 ^ 62) ≤ b) (h4 : b < 2 ^ 62) (hn : (b - a).toNat = n) :
    wpAny (model prog w) A (call (.type "range") [.int a t, .int b u]) (fun xv s₁ => wpAny (model prog w) A (pyIter xv) (fun it s₂ => ∃ I, it = .ref I ∧ IsRangeIter s₂.heap I a n 1 ∧ Sx K mg mb os gs g L l ([(I, rngIt a n 1)] ++ news) s₂) (fun _ _ => False) s₁) (fun _ _ => False) s := by
  refine call_range_2 (rng_core (s := _) ((σ.push _).tok _).drop1 (IsRange.new ..) (small_one h1 h2 h3 h4) ?_)
  rw [rangeSize_one]; split <;> omega
theorem r_rng3 {a b c : Int} {t u v : Tok} {n : Nat} (σ : Sx K mg mb os gs g L l news s) (hc : c ≠ 0) (hp : Builtin.divisionGoesByPylong (b - a) c = false) (hsm : Builtin.Range.small a b c = true) (hn : Builtin.Range.rangeSize a b c = (n : Int)) :
    wpAny (model prog w) A (call (.type "range") [.int a t, .int b u, .int c v]) (fun xv s₁ => wpAny (model prog w) A (pyIter xv) (fun it s₂ => ∃ I, it = .ref I ∧ IsRangeIter s₂.heap I a n c ∧ Sx K mg mb os gs g L l ([(I, rngIt a n c)] ++ news) s₂) (fun _ _ => False) s₁) (fun _ _ => False) s :=
  call_range_3 hc (rng_core (s := _) (σ.push _).drop1 (IsRange.new ..) hsm hn) (.inl hp)

/-- for x in a list of the ghost -/
theorem r_forI {α : Type} {x : Str} {px pos : Pos} {body orelse : List Stmt} {iter : Expr} {a : Addr} {its : List Value} {Q : Flow → Shared → Prop} (ρ : Room A 0)
    (C : Nat → α → Prop) (gh : α → Heap) (loc : α → List (Str × Value)) (led : α → List (Addr × Obj)) (x₀ : α) (h0 : C 0 x₀) (hg : ∀ i x, C i x → Sub g (gh x)) (hl : g.IsList a its.toArray)
    (he : wpAny (model prog w) A (eval iter env) (fun xv s₁ => xv = .ref a ∧ Sx K mg mb os gs (gh x₀) L (loc x₀) (led x₀) s₁) (fun _ _ => False) s)
    (turn : ∀ i x' own v s₁, i < its.length → C i x' → its[i]? = some v → Sx K mg mb os gs (gh x') L (loc x') (own ++ led x') s₁ →
      wpAny (model prog w) A (storeName env x v) (fun _ s₂ => wpAny (model prog w) A (execs body env) (fun f s₃ => match f with
        | .next | .cont => ∃ x'', C (i + 1) x'' ∧ Sx K mg mb os gs (gh x'') L (loc x'') (own ++ led x'') s₃
        | .brk => Q .next s₃
        | .ret v => Q (.ret v) s₃) (fun _ _ => False) s₂) (fun _ _ => False) s₁)
    (done : ∀ x s', C its.length x → Sx K mg mb os gs (gh x) L (loc x) (led x) s' → wpAny (model prog w) A (execs orelse env) Q (fun _ _ => False) s')
    (hs : ∀ x, foldedSetIterable iter env x = pure x := by intro _; rfl) :
    wpAny (model prog w) A (exec (.For (.Name x px) iter body orelse pos) env) Q E s := by
  refine wpAny_For (wpAny_mono he (fun xv s₁ h₁ => ?_) fun _ _ z => z.elim) hs
  obtain ⟨rfl, σ⟩ := h₁
  have hl1 : s₁.heap.IsList a its.toArray := hl.at fun o e => σ.keep _ _ (hg _ _ h0 _ _ e)
  obtain ⟨o₀, ho₀, hc₀⟩ := id hl
  have hne : a ≠ s₁.heap.objs.size := by obtain ⟨o, ho, _⟩ := hl1; exact Nat.ne_of_lt (Heap.lt_size ho)
  refine wpAny_pyIter_list hl1 ?_
  have W := Walks.list (w := w) (prog := prog) ρ.hh s₁.heap.objs.size a hne its.toArray
  rw [List.size_toArray] at W
  refine r_forL (g := g) (turns_name W) (fun i h st b hb => ?_) C gh loc led x₀ [_] h0 rfl (σ.push _) ?_ (fun b hb => ?_) hg (fun i x' own v s₂ hi hC hP _ τ => ?_) done
  · rw [List.mem_singleton.mp hb]; obtain ⟨o, ho, _⟩ := st.1; exact ⟨o, ho⟩
  · exact ⟨⟨_, Heap.get?_push_size _ rfl, rfl, rfl⟩, hl1.at fun o e => Heap.get?_push_of_some _ e⟩
  · rcases List.mem_cons.mp hb with z | z
    · exact .inl (by rw [z]; exact .head _)
    · rw [List.mem_singleton.mp z]; exact .inr ⟨o₀, ho₀⟩
  · exact wpAny_assign_Name (turn i x' own v s₂ hi hC (by simpa using hP) τ)

/-- two names at once out of a tuple -/
theorem r_two {x y : Str} {p1 p2 pos : Pos} {kk : Nat} {T : Addr} {v1 v2 : Value} {Q : Unit → Shared → Prop} (σ : Sx K mg mb os gs g L l news s) (ρ : Room A 0) (hT : s.heap.IsTuple T #[v1, v2])
    (h : ∀ s₁, Sx K mg mb os gs g L l news s₁ → wpAny (model prog w) A (storeName env x v1) (fun _ s₂ => wpAny (model prog w) A (storeName env y v2) Q E s₂) E s₁) :
    wpAny (model prog w) A (assign (.Tuple [.Name x p1, .Name y p2] kk pos) env (.ref T)) Q E s := by
  refine wpAny_assign_Tuple ρ.hh hT rfl rfl fun h' he => ?_
  have τ : Sx K mg mb os gs g L l news { s with heap := h' } := σ.ext (fun b o e => he b o (Nat.ne_of_lt (Heap.lt_size e)) e) rfl rfl
  refine assignInOrder_cons (wpAny_assign_Name (wpAny_mono (h _ τ) (fun _ s₂ h₂ => ?_) fun _ _ z => z))
  exact assignInOrder_cons (wpAny_assign_Name (wpAny_mono h₂ (fun _ s₃ h₃ => assignInOrder_nil h₃) fun _ _ z => z))

theorem go_tup {elts : List Expr} {k : Nat} {pos : Pos} {I t : Addr} {i : Nat} {v : Value} {Q : Unit → Shared → Prop} (hit : s.heap.IsTupleIter I t i) (hQ : Q () s) :
    wpAny (model prog w) A (letOwnedTupleGo (.Tuple elts k pos) (.ref I) v) Q E s := by
  obtain ⟨o, ho, hc, hd⟩ := hit
  cases v with
  | ref T =>
    unfold letOwnedTupleGo
    refine wpAny_bind (wpAny_load ho ?_)
    rw [hc, hd]
    show wpAny _ A (if (["enumerate", "zip", "dict_itemiterator", "dict_reverseitemiterator", "odict_iterator", "itertools.zip_longest", "itertools.pairwise"].contains "tuple_iterator" &&
        (#[.ref t, .int i 0] : Array Value)[0]? == some (rawInt T)) = true then _ else _) Q E s
    rw [if_neg (by
      intro h
      rw [show (["enumerate", "zip", "dict_itemiterator", "dict_reverseitemiterator", "odict_iterator", "itertools.zip_longest", "itertools.pairwise"].contains "tuple_iterator") = false from by decide, Bool.false_and] at h
      cases h)]
    exact wpAny_pure hQ
  | _ => exact wpAny_pure hQ
theorem go_lst {elts : List Expr} {k : Nat} {pos : Pos} {I t : Addr} {i : Nat} {v : Value} {Q : Unit → Shared → Prop} (hit : s.heap.IsListIter I t i) (hQ : Q () s) :
    wpAny (model prog w) A (letOwnedTupleGo (.Tuple elts k pos) (.ref I) v) Q E s := by
  cases v with
  | ref T => exact wpAny_letOwnedTupleGo_listiter hit hQ
  | _ => exact wpAny_pure hQ

/-- for t in a tuple of the ghost (any target) -/
theorem r_forT {α : Type} {elts : List Expr} {kk : Nat} {px pos : Pos} {body orelse : List Stmt} {iter : Expr} {a : Addr} {its : List Value} {Q : Flow → Shared → Prop} (ρ : Room A 0)
    (C : Nat → α → Prop) (gh : α → Heap) (loc : α → List (Str × Value)) (led : α → List (Addr × Obj)) (x₀ : α) (h0 : C 0 x₀) (hg : ∀ i x, C i x → Sub g (gh x)) (hl : g.IsTuple a its.toArray)
    (he : wpAny (model prog w) A (eval iter env) (fun xv s₁ => xv = .ref a ∧ Sx K mg mb os gs (gh x₀) L (loc x₀) (led x₀) s₁) (fun _ _ => False) s)
    (turn : ∀ i x' own v s₁, i < its.length → C i x' → its[i]? = some v → Sx K mg mb os gs (gh x') L (loc x') (own ++ led x') s₁ →
      wpAny (model prog w) A (assign (.Tuple elts kk px) env v) (fun _ s₂ => wpAny (model prog w) A (execs body env) (fun f s₃ => match f with
        | .next | .cont => ∃ x'', C (i + 1) x'' ∧ Sx K mg mb os gs (gh x'') L (loc x'') (own ++ led x'') s₃
        | .brk => Q .next s₃
        | .ret v => Q (.ret v) s₃) (fun _ _ => False) s₂) (fun _ _ => False) s₁)
    (done : ∀ x s', C its.length x → Sx K mg mb os gs (gh x) L (loc x) (led x) s' → wpAny (model prog w) A (execs orelse env) Q (fun _ _ => False) s')
    (hs : ∀ x, foldedSetIterable iter env x = pure x := by intro _; rfl) :
    wpAny (model prog w) A (exec (.For (.Tuple elts kk px) iter body orelse pos) env) Q E s := by
  refine wpAny_For (wpAny_mono he (fun xv s₁ h₁ => ?_) fun _ _ z => z.elim) hs
  obtain ⟨rfl, σ⟩ := h₁
  have hl1 : s₁.heap.IsTuple a its.toArray := hl.at fun o e => σ.keep _ _ (hg _ _ h0 _ _ e)
  obtain ⟨o₀, ho₀, hc₀⟩ := id hl
  have hne : a ≠ s₁.heap.objs.size := by obtain ⟨o, ho, _⟩ := hl1; exact Nat.ne_of_lt (Heap.lt_size ho)
  refine wpAny_pyIter_tuple hl1 ?_
  have W := Walks.tuple (w := w) (prog := prog) ρ.hh s₁.heap.objs.size a hne its.toArray
  rw [List.size_toArray] at W
  refine r_forL (g := g) (KTurns.ofWalks W fun _ _ _ _ _ st hq => go_tup st.1 hq) (fun i h st b hb => ?_) C gh loc led x₀ [_] h0 rfl (σ.push _) ?_ (fun b hb => ?_) hg (fun i x' own v s₂ hi hC hP _ τ => ?_) done
  · rw [List.mem_singleton.mp hb]; obtain ⟨o, ho, _⟩ := st.1; exact ⟨o, ho⟩
  · exact ⟨⟨_, Heap.get?_push_size _ rfl, rfl, rfl⟩, hl1.at fun o e => Heap.get?_push_of_some _ e⟩
  · rcases List.mem_cons.mp hb with z | z
    · exact .inl (by rw [z]; exact .head _)
    · rw [List.mem_singleton.mp z]; exact .inr ⟨o₀, ho₀⟩
  · exact turn i x' own v s₂ hi hC (by simpa using hP) τ
/-- for (x, y) in a list of the ghost -/
theorem r_forI2 {α : Type} {elts : List Expr} {kk : Nat} {px pos : Pos} {body orelse : List Stmt} {iter : Expr} {a : Addr} {its : List Value} {Q : Flow → Shared → Prop} (ρ : Room A 0)
    (C : Nat → α → Prop) (gh : α → Heap) (loc : α → List (Str × Value)) (led : α → List (Addr × Obj)) (x₀ : α) (h0 : C 0 x₀) (hg : ∀ i x, C i x → Sub g (gh x)) (hl : g.IsList a its.toArray)
    (he : wpAny (model prog w) A (eval iter env) (fun xv s₁ => xv = .ref a ∧ Sx K mg mb os gs (gh x₀) L (loc x₀) (led x₀) s₁) (fun _ _ => False) s)
    (turn : ∀ i x' own v s₁, i < its.length → C i x' → its[i]? = some v → Sx K mg mb os gs (gh x') L (loc x') (own ++ led x') s₁ →
      wpAny (model prog w) A (assign (.Tuple elts kk px) env v) (fun _ s₂ => wpAny (model prog w) A (execs body env) (fun f s₃ => match f with
        | .next | .cont => ∃ x'', C (i + 1) x'' ∧ Sx K mg mb os gs (gh x'') L (loc x'') (own ++ led x'') s₃
        | .brk => Q .next s₃
        | .ret v => Q (.ret v) s₃) (fun _ _ => False) s₂) (fun _ _ => False) s₁)
    (done : ∀ x s', C its.length x → Sx K mg mb os gs (gh x) L (loc x) (led x) s' → wpAny (model prog w) A (execs orelse env) Q (fun _ _ => False) s')
    (hs : ∀ x, foldedSetIterable iter env x = pure x := by intro _; rfl) :
    wpAny (model prog w) A (exec (.For (.Tuple elts kk px) iter body orelse pos) env) Q E s := by
  refine wpAny_For (wpAny_mono he (fun xv s₁ h₁ => ?_) fun _ _ z => z.elim) hs
  obtain ⟨rfl, σ⟩ := h₁
  have hl1 : s₁.heap.IsList a its.toArray := hl.at fun o e => σ.keep _ _ (hg _ _ h0 _ _ e)
  obtain ⟨o₀, ho₀, hc₀⟩ := id hl
  have hne : a ≠ s₁.heap.objs.size := by obtain ⟨o, ho, _⟩ := hl1; exact Nat.ne_of_lt (Heap.lt_size ho)
  refine wpAny_pyIter_list hl1 ?_
  have W := Walks.list (w := w) (prog := prog) ρ.hh s₁.heap.objs.size a hne its.toArray
  rw [List.size_toArray] at W
  refine r_forL (g := g) (KTurns.ofWalks W fun _ _ _ _ _ st hq => go_lst st.1 hq) (fun i h st b hb => ?_) C gh loc led x₀ [_] h0 rfl (σ.push _) ?_ (fun b hb => ?_) hg (fun i x' own v s₂ hi hC hP _ τ => ?_) done
  · rw [List.mem_singleton.mp hb]; obtain ⟨o, ho, _⟩ := st.1; exact ⟨o, ho⟩
  · exact ⟨⟨_, Heap.get?_push_size _ rfl, rfl, rfl⟩, hl1.at fun o e => Heap.get?_push_of_some _ e⟩
  · rcases List.mem_cons.mp hb with z | z
    · exact .inl (by rw [z]; exact .head _)
    · rw [List.mem_singleton.mp z]; exact .inr ⟨o₀, ho₀⟩
  · exact turn i x' own v s₂ hi hC (by simpa using hP) τ
end
end Mine
end
section
open PySem PySem.W PyProof.Rows PySem.Calls
set_option maxRecDepth 100000
namespace Mine
section
variable {prog : Program} {w : World} {A : Around} {E : Value → Shared → Prop} {s : Shared}
theorem nextT_item {it t : Addr} {i : Nat} {items : Array Value} {x : Value} {Q : Value → Shared → Prop} (hit : s.heap.IsTupleIter it t i) (ht : s.heap.IsTuple t items) (hx : items[i]? = some x)
    (hQ : ∀ h', h'.IsTupleIter it t (i + 1) → Heap.SameBut it s.heap h' → Q x { s with heap := h' }) :
    wpAny (model prog w) A (Builtin.SmallTypes.nextOf (.ref it)) Q E s := by
  obtain ⟨o, ho, hc, hd⟩ := id hit
  obtain ⟨ol, hol, _, nl, hdl⟩ := ht
  unfold Builtin.SmallTypes.nextOf
  refine wpAny_bind (wpAny_callSpecial?_slot (name := Str.ofString "__next__") hit.typeIs F.slot_tuple_iterator_next
    (wpAny_call_entry F.slot_tuple_iterator_next hit.typeIs F.entry_tuple_iterator_next ?_ (F.args_tuple_iterator_next_1 _)))
  show wpAny _ _ (field (.ref it) 0 >>= _) _ _ s
  refine wpAny_bind (wpAny_field ho hd (x := .ref t) rfl ?_)
  show wpAny _ _ (if (Value.ref t == Value.none) = true then _ else _) _ _ s
  rw [if_neg (show ¬ ((Value.ref t == Value.none) = true) from Bool.false_ne_true)]
  show wpAny _ _ (field (.ref it) 1 >>= _) _ _ s
  refine wpAny_bind (wpAny_field ho hd (x := .int i 0) rfl ?_)
  show wpAny _ _ (seqItems? (.ref t) >>= _) _ _ s
  refine wpAny_bind (wpAny_seqItems hol hdl ?_)
  simp only [Int.toNat_natCast, hx]
  refine wpAny_bind (wpAny_setField ho hd (by simp) (wpAny_pure ⟨x, rfl, wpAny_pure (hQ _ ?_ (Heap.SameBut.update ..))⟩))
  exact ⟨_, Heap.get?_update_self _ ho (Obj.isFreed_of_fields (Obj.data_mapFields hd _)), (Obj.cls_mapFields ..).trans hc, by
    rw [Obj.data_mapFields hd]; simp [rawInt]⟩
theorem nextT_end {it t : Addr} {i : Nat} {items : Array Value} {Q : Value → Shared → Prop} (hh : A.handled = none) (hit : s.heap.IsTupleIter it t i) (ht : s.heap.IsTuple t items) (hx : items[i]? = none)
    (hE : ∀ h' e, Heap.ExtBut it s.heap h' → (∃ o, h'.get? e = some o ∧ o.cls = .type "StopIteration") → E (.ref e) { s with heap := h' }) :
    wpAny (model prog w) A (Builtin.SmallTypes.nextOf (.ref it)) Q E s := by
  obtain ⟨o, ho, hc, hd⟩ := id hit
  obtain ⟨ol, hol, _, nl, hdl⟩ := ht
  unfold Builtin.SmallTypes.nextOf
  refine wpAny_bind (wpAny_callSpecial?_slot (name := Str.ofString "__next__") hit.typeIs F.slot_tuple_iterator_next
    (wpAny_call_entry F.slot_tuple_iterator_next hit.typeIs F.entry_tuple_iterator_next ?_ (F.args_tuple_iterator_next_1 _)))
  show wpAny _ _ (field (.ref it) 0 >>= _) _ _ s
  refine wpAny_bind (wpAny_field ho hd (x := .ref t) rfl ?_)
  show wpAny _ _ (if (Value.ref t == Value.none) = true then _ else _) _ _ s
  rw [if_neg (show ¬ ((Value.ref t == Value.none) = true) from Bool.false_ne_true)]
  show wpAny _ _ (field (.ref it) 1 >>= _) _ _ s
  refine wpAny_bind (wpAny_field ho hd (x := .int i 0) rfl ?_)
  show wpAny _ _ (seqItems? (.ref t) >>= _) _ _ s
  refine wpAny_bind (wpAny_seqItems hol hdl ?_)
  simp only [Int.toNat_natCast, hx]
  refine wpAny_bind (wpAny_rule (wpAny_bind (wpAny_setField ho hd (by simp) ?_)))
  show wpAny _ _ (newExc (.type "StopIteration") [] >>= _) _ _ _
  refine wpAny_bind ?_
  simp only [newExc, newTuple]
  refine wpAny_bind (wpAny_newObj_type ?_ (by size_fits))
  refine wpAny_bind (m := firstArgMember _ _) (wpAny_of_eq (a := Value.none) (by first | rfl | (simp only [firstArgMember]; rfl)) ?_)
  refine wpAny_newObj_type ?_ (by size_fits)
  simp only [raiseNew]
  refine wpAny_bind (wpAny_handled ?_)
  rw [show A.in1.handled = none from hh]
  refine wpAny_bind (wpAny_pure (wpAny_throw ?_))
  exact hE _ _ (((Heap.SameBut.update ..).extBut.push _).push _) ⟨_, Heap.get?_push_size _ rfl, rfl⟩
theorem draws_tuple (hh : A.handled = none) (it t : Addr) (hne : t ≠ it) (items : Array Value) :
    Draws prog w A it [it, t] items.size (fun i v => items[i]? = some v) (fun i h => h.IsTupleIter it t i ∧ h.IsTuple t items) where
  live := fun _ _ st => let ⟨o, ho, _⟩ := st.1; ⟨o, ho⟩
  frame := fun _ _ _ st hk => ⟨st.1.at fun o e => hk it (by simp) o e, st.2.at fun o e => hk t (by simp) o e⟩
  item := fun i s Q E hi st hQ => by
    refine nextT_item st.1 st.2 (x := items[i]) (by simp [hi]) fun h' hit' hs' => ?_
    exact hQ _ h' s.toks (by simp [hi]) ⟨hit', st.2.extBut hs'.extBut hne⟩ hs'
  done := fun s Q E st hE => nextT_end hh st.1 st.2 (by simp) hE

open AutoSeq1 (wpAny_loadPart') in
theorem enum_newT (l : Addr) (items : Array Value) (n : Nat) (dct : Option Addr) (sl : Array (Option Value)) :
    Meets (Builtin.«enumerate.__new__» ⟨[.type "enumerate", .ref l], []⟩) (fun _ R s => s.heap.get? l = some { cls := .type "tuple", dict := dct, data := .seq items n, slots := sl } ∧
      R (.ok (.ret (.ref (s.heap.push { cls := .type "tuple_iterator", data := .fields #[.ref l, .int 0 0] }).objs.size)))
        { s with heap := (s.heap.push { cls := .type "tuple_iterator", data := .fields #[.ref l, .int 0 0] }).push { cls := .type "enumerate", data := .fields #[.none, .bool false, .ref s.heap.objs.size, rawInt 0, .none, .none] } }) :=
  .of_wp fun prog w A R s h => by
    obtain ⟨hp, g, d, tk, os⟩ := s; obtain ⟨hl, h⟩ := h
    have hsub := sub_enumerate
    have hL : Heap.IsTuple (Shared.heap ⟨hp, g, d, tk, os⟩) l items := ⟨_, hl, rfl, n, rfl⟩
    wp_walk using wpAny_loadPart' hl
    refine wpAny_stack_any fun st => wpAny_pure ?_
    split
    · rename_i c _ _ _ _ _
      cases (c == Value.type "enumerate")
      · wp_walk using wpAny_loadPart' hl, wpAny_pyIter_tuple hL
        exact ⟨_, rfl, h⟩
      · wp_walk using wpAny_loadPart' hl, wpAny_pyIter_tuple hL
        exact ⟨_, rfl, h⟩
    · wp_walk using wpAny_loadPart' hl, wpAny_pyIter_tuple hL
      exact ⟨_, rfl, h⟩
end
section
variable {prog : Program} {w : World} {A : Around} {E : Value → Shared → Prop}
  {K : Frag} {mg mb : Str → Option Value} {os : OsState} {gs : Array GenState} {g : Heap} {L : Addr} {l l' : List (Str × Value)} {news news' : List (Addr × Obj)} {s : Shared} {env : Env}
abbrev tupIt (t : Addr) : Obj := { cls := .type "tuple_iterator", data := .fields #[.ref t, .int 0 0] }
abbrev enumIt (it : Addr) : Obj := { cls := .type "enumerate", data := .fields #[.none, .bool false, .ref it, rawInt 0, .none, .none] }
theorem r_enum {t : Addr} {its : List Value} {Q : Value → Shared → Prop} (σ : Sx K mg mb os gs g L l news s) (ht : g.IsTuple t its.toArray)
    (h : ∀ (it e : Addr) s', e ≠ it → t ≠ e → t ≠ it → Sx K mg mb os gs g L l ([(e, enumIt it), (it, tupIt t)] ++ news) s' → Q (.ref e) s') :
    wpAny (model prog w) A (call (.type "enumerate") [.ref t]) Q E s := by
  obtain ⟨⟨c, dct, dt, sl⟩, hl, hc, n, hd⟩ := ht
  replace hc : c = .type "tuple" := hc
  replace hd : dt = .seq its.toArray n := hd
  subst hc hd
  have hl' := σ.keep _ _ hl
  refine callType_new F.called_enumerate (by decide) (F.typeCall_enumerate_1 _) (F.newCall_enumerate_1 _) (fun obj => F.args_object_init_2 obj _) F.entry_enumerate_new
    (enum_newT t its.toArray n dct sl) ⟨hl', ?_⟩
  have τ := (σ.push (tupIt t)).push (enumIt s.heap.objs.size)
  have hz : (s.heap.push (tupIt t)).objs.size = s.heap.objs.size + 1 := Heap.size_push ..
  have hlt := Heap.lt_size hl'
  refine ⟨⟨_, (τ.nw _ (.head _)).1, rfl⟩, h _ _ _ ?_ ?_ (Nat.ne_of_lt hlt) τ⟩
  · show (s.heap.push (tupIt t)).objs.size ≠ s.heap.objs.size
    rw [hz]; exact Nat.succ_ne_self _
  · show t ≠ (s.heap.push (tupIt t)).objs.size
    rw [hz]; exact Nat.ne_of_lt (Nat.lt_succ_of_lt hlt)
/-- for (i, x) in enumerate of a tuple of the ghost -/
theorem r_forE {α : Type} {elts : List Expr} {kk : Nat} {px pos : Pos} {body orelse : List Stmt} {iter : Expr} {a : Addr} {its : List Value} {Q : Flow → Shared → Prop} (ρ : Room A 0)
    (C : Nat → α → Prop) (gh : α → Heap) (loc : α → List (Str × Value)) (led : α → List (Addr × Obj)) (x₀ : α) (h0 : C 0 x₀) (hg : ∀ i x, C i x → Sub g (gh x)) (hl : g.IsTuple a its.toArray)
    (he : wpAny (model prog w) A (eval iter env) (fun xv s₁ => ∃ it e, xv = .ref e ∧ e ≠ it ∧ a ≠ e ∧ a ≠ it ∧ Sx K mg mb os gs (gh x₀) L (loc x₀) ([(e, enumIt it), (it, tupIt a)] ++ led x₀) s₁) (fun _ _ => False) s)
    (turn : ∀ i x' own v T t s₁, i < its.length → C i x' → its[i]? = some v → s₁.heap.IsTuple T #[.int (i : Int) t, v] → Sx K mg mb os gs (gh x') L (loc x') (own ++ led x') s₁ →
      wpAny (model prog w) A (assign (.Tuple elts kk px) env (.ref T)) (fun _ s₂ => wpAny (model prog w) A (execs body env) (fun f s₃ => match f with
        | .next | .cont => ∃ x'', C (i + 1) x'' ∧ Sx K mg mb os gs (gh x'') L (loc x'') (own ++ led x'') s₃
        | .brk => Q .next s₃
        | .ret v => Q (.ret v) s₃) (fun _ _ => False) s₂) (fun _ _ => False) s₁)
    (done : ∀ x s', C its.length x → Sx K mg mb os gs (gh x) L (loc x) (led x) s' → wpAny (model prog w) A (execs orelse env) Q (fun _ _ => False) s')
    (hs : ∀ x, foldedSetIterable iter env x = pure x := by intro _; rfl) :
    wpAny (model prog w) A (exec (.For (.Tuple elts kk px) iter body orelse pos) env) Q E s := by
  refine wpAny_For (wpAny_mono he (fun xv s₁ h₁ => ?_) fun _ _ z => z.elim) hs
  obtain ⟨it, e, rfl, hei, hae, hai, σ⟩ := h₁
  obtain ⟨o₀, ho₀, hc₀⟩ := id hl
  have hl1 : s₁.heap.IsTuple a its.toArray := hl.at fun o e => σ.keep _ _ (hg _ _ h0 _ _ e)
  have hE : IsEnum s₁.heap e it 0 .none := (σ.nw _ (.head _)).1
  have hI : s₁.heap.IsTupleIter it a 0 := ⟨_, (σ.nw _ (.tail _ (.head _))).1, rfl, rfl⟩
  refine wpAny_pyIter_enum hE ?_
  have D := draws_tuple (w := w) (prog := prog) (A := A.in1) ρ.hh it a hai its.toArray
  rw [List.size_toArray] at D
  have W := (WalksT.enumerateD D e hei (by simp only [List.mem_cons, List.not_mem_nil, or_false, not_or]; exact ⟨hei, Ne.symm hae⟩) (.head _)).toU
  refine r_forL (g := g) (KTurns.ofWalksU W) (fun i h st b hb => ?_) C gh loc led x₀ [_, _] h0 rfl σ ?_ (fun b hb => ?_) hg (fun i x' own v s₂ hi hC hP _ τ => ?_) done
  · obtain ⟨⟨old, h1⟩, ⟨oi, h2, _⟩, _⟩ := st
    rcases List.mem_cons.mp hb with z | z
    · rw [z]; exact ⟨_, h1⟩
    · rw [List.mem_singleton.mp z]; exact ⟨_, h2⟩
  · exact ⟨⟨.none, hE⟩, hI, hl1⟩
  · rcases List.mem_cons.mp hb with z | z
    · exact .inl (by rw [z]; exact .head _)
    · rcases List.mem_cons.mp z with z | z
      · exact .inl (by rw [z]; exact .tail _ (.head _))
      · rw [List.mem_singleton.mp z]; exact .inr ⟨o₀, ho₀⟩
  · obtain ⟨T, vals, rfl, ⟨t, x, hx, rfl⟩, hT⟩ := hP
    exact turn i x' own x T t s₂ hi hC (by simpa using hx) hT τ
end
end Mine
end
section
open PySem PySem.W PyProof.Rows PySem.Calls
set_option maxRecDepth 100000
namespace Mine
section
variable {prog : Program} {w : World} {A : Around} {E : Value → Shared → Prop}
  {K : Frag} {mg mb : Str → Option Value} {os : OsState} {gs : Array GenState} {g : Heap} {L : Addr} {l l' : List (Str × Value)} {news news' : List (Addr × Obj)} {s : Shared} {env : Env}

theorem Up.app {a : Addr} {o o' : Obj} {x y : List (Addr × Obj)} (h : Up a o o' x y) : ∀ p : List (Addr × Obj), Up a o o' (p ++ x) (p ++ y)
  | [] => h
  | _ :: p => .tail (h.app p)
theorem Pick.app {q : Addr × Obj} {x y : List (Addr × Obj)} (h : Pick q x y) : ∀ p : List (Addr × Obj), Pick q (p ++ x) (p ++ y)
  | [] => h
  | _ :: p => .tail (h.app p)
theorem r_newList {vs : List Value} {Q : Value → Shared → Prop} (σ : Sx K mg mb os gs g L l news s) (hz : vs.length ≤ sizeLine)
    (h : ∀ a s', Sx K mg mb os gs g L l ((a, listOf vs.toArray 0) :: news) s' → Q (.ref a) s') : wpAny (model prog w) A (newList vs) Q E s :=
  wpAny_newList (h _ _ (σ.push _)) hz
abbrev tupOf (its : Array Value) (n : Nat) : Obj := { cls := .type "tuple", data := .seq its n }
theorem r_newTuple {vs : List Value} {Q : Value → Shared → Prop} (σ : Sx K mg mb os gs g L l news s) (hz : vs.length ≤ sizeLine)
    (h : ∀ a s', Sx K mg mb os gs g L l ((a, tupOf vs.toArray 0) :: news) s' → Q (.ref a) s') : wpAny (model prog w) A (newTuple vs) Q E s :=
  wpAny_newTuple (h _ _ (σ.push _)) hz
/-- a method of a str -/
theorem r_methS {o : Expr} {name : Str} {apos pos : Pos} {args : List Expr} {id : String} {Q : Value → Shared → Prop} {pl : Sem Bool} (slot : Slot "str" name id) (hty : typeOf (.builtin id) = pure (.type "method_descriptor"))
    (h : wpAny (model prog w) A (eval o env) (fun v s₁ => ∃ x t, v = .str x t ∧ wpAny (model prog w) A (callWith pos (.builtin id) [.str x t] (backTo pos (starEach args env)) []) Q E s₁) E s)
    (he : eval (.Call (.Attribute o name apos) args [] pos) env = (do
      let ov ← eval o env
      standAt apos.atName
      let (f, first) ← holding [ov] (getMethod ov name pl)
      callWith pos f first (backTo pos (starEach args env)) []) := by rfl) :
    wpAny (model prog w) A (eval (.Call (.Attribute o name apos) args [] pos) env) Q E s := by
  refine MethodCall_ (wpAny_mono h (fun v s₁ h₁ => ?_) fun _ _ x => x) he
  obtain ⟨x, t, rfl, h₂⟩ := h₁
  exact getMethod_builtin (typeIs_str _ _ _) PySem.F.plainAttrs_str slot hty (fun _ e => nomatch e) h₂
theorem strs_app : ∀ {vs ws : List Value} {xs ys : List Str}, StrsAre vs xs → StrsAre ws ys → StrsAre (vs ++ ws) (xs ++ ys)
  | _, _, _, _, .nil, k => k
  | _, _, _, _, .cons y t h, k => .cons y t (strs_app h k)
theorem strs_len : ∀ {vs : List Value} {xs : List Str}, StrsAre vs xs → vs.length = xs.length
  | _, _, .nil => rfl
  | _, _, .cons _ _ h => congrArg (· + 1) (strs_len h)
theorem r_join {a : Addr} {its : List Value} {n : Nat} {x : Str} {t : Tok} {ys : List Str} {Q : Value → Shared → Prop} (σ : Sx K mg mb os gs g L l news s) (hm : (a, listOf its.toArray n) ∈ news) (hi : StrsAre its ys)
    (hz : (ys.map (·.length)).sum + ys.length * x.length ≤ 16777216) (h : ∀ t s', Sx K mg mb os gs g L l news s' → Q (.str (Txt.join x ys) t) s') :
    wpAny (model prog w) A (call (.builtin "str.join") [.str x t, .ref a]) Q E s :=
  PyProof.Rows.join_list (isL σ hm) hi hz fun t' k => h t' _ (σ.tok k)

/-- the table of filemode -/
def pick (p : Int → Bool) : List (Int × Str) → Option Str
  | [] => none
  | (b, c) :: r => if p b then some c else pick p r
def fmAt (mode : Int) (i : Nat) (row : List (Int × Str)) : Str :=
  if i = 0 then (pick (fun b => Builtin.bitAnd mode 61440 == b) row).getD "?" else (pick (fun b => Builtin.bitAnd mode b == b) row).getD "-"
def fmP (mode : Int) (i : Nat) (b : Int) : Bool := if i = 0 then Builtin.bitAnd mode 61440 == b else Builtin.bitAnd mode b == b
theorem fmAt_none {mode : Int} {i : Nat} {row : List (Int × Str)} (h : pick (fmP mode i) row = none) : fmAt mode i row = if i = 0 then "?" else "-" := by
  unfold fmAt
  by_cases z : i = 0
  · rw [if_pos z, if_pos z]
    have e : fmP mode i = fun b => Builtin.bitAnd mode 61440 == b := by funext b; unfold fmP; rw [if_pos z]
    rw [e] at h; rw [h]; rfl
  · rw [if_neg z, if_neg z]
    have e : fmP mode i = fun b => Builtin.bitAnd mode b == b := by funext b; unfold fmP; rw [if_neg z]
    rw [e] at h; rw [h]; rfl
theorem fmAt_some {mode : Int} {i : Nat} {row : List (Int × Str)} {c : Str} (h : pick (fmP mode i) row = some c) : fmAt mode i row = c := by
  unfold fmAt
  by_cases z : i = 0
  · rw [if_pos z]
    have e : fmP mode i = fun b => Builtin.bitAnd mode 61440 == b := by funext b; unfold fmP; rw [if_pos z]
    rw [e] at h; rw [h]; rfl
  · rw [if_neg z]
    have e : fmP mode i = fun b => Builtin.bitAnd mode b == b := by funext b; unfold fmP; rw [if_neg z]
    rw [e] at h; rw [h]; rfl
def fmFrom (mode : Int) : Nat → List (List (Int × Str)) → List Str
  | _, [] => []
  | i, row :: r => fmAt mode i row :: fmFrom mode (i + 1) r
def fmTab : List (List (Int × Str)) := [[(40960, "l"), (49152, "s"), (32768, "-"), (24576, "b"), (16384, "d"), (8192, "c"), (4096, "p")], [(256, "r")], [(128, "w")], [(2112, "s"), (2048, "S"), (64, "x")],
  [(32, "r")], [(16, "w")], [(1032, "s"), (1024, "S"), (8, "x")], [(4, "r")], [(2, "w")], [(513, "t"), (512, "T"), (1, "x")]]
def RowIs (g : Heap) : List Value → List (Int × Str) → Prop
  | [], [] => True
  | v :: vs, bc :: r => (∃ T t u, v = .ref T ∧ g.IsTuple T #[.int bc.1 t, .str bc.2 u]) ∧ RowIs g vs r
  | _, _ => False
def TabIs (g : Heap) : List Value → List (List (Int × Str)) → Prop
  | [], [] => True
  | v :: vs, row :: r => (∃ a its, v = .ref a ∧ g.IsTuple a (List.toArray its) ∧ RowIs g its row) ∧ TabIs g vs r
  | _, _ => False
theorem RowIs.len {g : Heap} : ∀ {vs : List Value} {r : List (Int × Str)}, RowIs g vs r → vs.length = r.length
  | [], [], _ => rfl
  | _ :: _, _ :: _, h => congrArg (· + 1) (RowIs.len h.2)
  | [], _ :: _, h => h.elim
  | _ :: _, [], h => h.elim
theorem TabIs.len {g : Heap} : ∀ {vs : List Value} {r : List (List (Int × Str))}, TabIs g vs r → vs.length = r.length
  | [], [], _ => rfl
  | _ :: _, _ :: _, h => congrArg (· + 1) (TabIs.len h.2)
  | [], _ :: _, h => h.elim
  | _ :: _, [], h => h.elim
theorem RowIs.get {g : Heap} : ∀ {vs : List Value} {r : List (Int × Str)} (i : Nat) {v : Value}, RowIs g vs r → vs[i]? = some v → ∃ bc T t u, r[i]? = some bc ∧ v = .ref T ∧ g.IsTuple T #[.int bc.1 t, .str bc.2 u]
  | _ :: _, bc :: _, 0, _, h, e => by
    obtain ⟨⟨T, t, u, rfl, hT⟩, _⟩ := h
    cases e
    exact ⟨bc, T, t, u, rfl, rfl, hT⟩
  | _ :: _, _ :: _, i + 1, _, h, e => by
    obtain ⟨bc, T, t, u, h1, h2⟩ := RowIs.get i h.2 (by simpa using e)
    exact ⟨bc, T, t, u, by simpa using h1, h2⟩
  | [], [], _, _, _, e => by simp at e
  | [], _ :: _, _, _, h, _ => h.elim
  | _ :: _, [], _, _, h, _ => h.elim
theorem TabIs.get {g : Heap} : ∀ {vs : List Value} {r : List (List (Int × Str))} (i : Nat) {v : Value}, TabIs g vs r → vs[i]? = some v → ∃ row a its, r[i]? = some row ∧ v = .ref a ∧ g.IsTuple a (List.toArray its) ∧ RowIs g its row
  | _ :: _, row :: _, 0, _, h, e => by
    obtain ⟨⟨a, its, rfl, h1, h2⟩, _⟩ := h
    cases e
    exact ⟨row, a, its, rfl, rfl, h1, h2⟩
  | _ :: _, _ :: _, i + 1, _, h, e => by
    obtain ⟨row, a, its, h1, h2⟩ := TabIs.get i h.2 (by simpa using e)
    exact ⟨row, a, its, by simpa using h1, h2⟩
  | [], [], _, _, _, e => by simp at e
  | [], _ :: _, _, _, h, _ => h.elim
  | _ :: _, [], _, _, h, _ => h.elim
theorem pick_take {p : Int → Bool} : ∀ {r : List (Int × Str)} {i : Nat} {bc : Int × Str}, pick p (r.take i) = none → r[i]? = some bc → p bc.1 = true → pick p r = some bc.2
  | _ :: _, 0, _, _, e, h => by cases e; simp [pick, h]
  | bc :: r, i + 1, _, h, e, hp => by
    rw [List.take_succ_cons, pick] at h
    split at h
    · cases h
    · rename_i z; rw [pick, if_neg z]; exact pick_take h (by simpa using e) hp
  | [], _, _, _, e, _ => by simp at e
theorem pick_next {p : Int → Bool} : ∀ {r : List (Int × Str)} {i : Nat} {bc : Int × Str}, pick p (r.take i) = none → r[i]? = some bc → p bc.1 = false → pick p (r.take (i + 1)) = none
  | bc :: r, 0, _, _, e, h => by cases e; simp [pick, h]
  | bc :: r, i + 1, _, h, e, hp => by
    rw [List.take_succ_cons, pick] at h ⊢
    split at h
    · cases h
    · rename_i z; rw [if_neg z]; exact pick_next h (by simpa using e) hp
  | [], _, _, _, e, _ => by simp at e
theorem fmFrom_snoc (mode : Int) : ∀ (tab : List (List (Int × Str))) (k i : Nat) (row : List (Int × Str)), tab[i]? = some row → fmFrom mode k (tab.take (i + 1)) = fmFrom mode k (tab.take i) ++ [fmAt mode (k + i) row]
  | r :: tab, k, 0, row, e => by cases e; rfl
  | r :: tab, k, i + 1, row, e => by
    have z := fmFrom_snoc mode tab (k + 1) i row (by simpa using e)
    rw [List.take_succ_cons, List.take_succ_cons, fmFrom, fmFrom, z, List.cons_append]
    congr 4
    omega
  | [], _, _, _, e => by simp at e
theorem pick_mem {p : Int → Bool} : ∀ {r : List (Int × Str)} {c : Str}, pick p r = some c → ∃ bc ∈ r, bc.2 = c
  | (b, d) :: r, c, h => by
    unfold pick at h
    split at h
    · cases h; exact ⟨_, .head _, rfl⟩
    · obtain ⟨bc, m, e⟩ := pick_mem h; exact ⟨bc, .tail _ m, e⟩
theorem fmAt_len (m : Int) (i : Nat) (row : List (Int × Str)) (h : ∀ bc ∈ row, bc.2.length = 1) : (fmAt m i row).length = 1 := by
  cases e : pick (fmP m i) row with
  | none =>
    rw [fmAt_none e]
    split <;> decide
  | some c =>
    rw [fmAt_some e]
    obtain ⟨bc, hm, rfl⟩ := pick_mem e
    exact h bc hm
theorem fmFrom_len (m : Int) : ∀ (tab : List (List (Int × Str))) (k : Nat), (∀ row ∈ tab, ∀ bc ∈ row, bc.2.length = 1) → (fmFrom m k tab).length = tab.length ∧ ((fmFrom m k tab).map (·.length)).sum = tab.length
  | [], _, _ => ⟨rfl, rfl⟩
  | row :: tab, k, h => by
    have z := fmFrom_len m tab (k + 1) fun r hr => h r (.tail _ hr)
    have y := fmAt_len m k row (h row (.head _))
    refine ⟨congrArg (· + 1) z.1, ?_⟩
    rw [fmFrom, List.map_cons, List.sum_cons, z.2, y, List.length_cons, Nat.add_comm]
theorem fmTab_one : ∀ row ∈ fmTab, ∀ bc ∈ row, bc.2.length = 1 := by decide
theorem row_cons {g : Heap} {T : Addr} {b : Int} {c : Str} {t u : Tok} {vs : List Value} {r : List (Int × Str)} (h : g.IsTuple T (List.toArray [.int b t, .str c u])) (k : RowIs g vs r) : RowIs g (.ref T :: vs) ((b, c) :: r) := ⟨⟨T, t, u, rfl, h⟩, k⟩
theorem tab_cons {g : Heap} {a : Addr} {its vs : List Value} {row : List (Int × Str)} {r : List (List (Int × Str))} (h : g.IsTuple a (List.toArray its)) (h2 : RowIs g its row) (k : TabIs g vs r) : TabIs g (.ref a :: vs) (row :: r) := ⟨⟨a, its, rfl, h, h2⟩, k⟩
theorem tup_K {K : Frag} {h : Heap} {a : Addr} {v : List Value} {n : Nat} {dd : Option Addr} {sl : Array (Option Value)} (X : K.In h) (hl : K.lookup a = some ⟨.type "tuple", dd, .seq v.toArray n, sl⟩) : h.IsTuple a v.toArray := ⟨_, X _ _ hl, rfl, n, rfl⟩
end
end Mine
end
section
open PySem PySem.Sre PySem.Sre.M
set_option maxRecDepth 100000
namespace Mine
/-- the machine ends after so many steps -/
inductive Ends : Nat → Sre.M → Sre.M → Prop
  | done {m : Sre.M} : m.outcome.isSome = true → Ends 0 m m
  | step {k : Nat} {m m' r : Sre.M} : m.outcome = none → m.step = m' → Ends k m' r → Ends (k + 1) m r
theorem Ends.out {k : Nat} {m r : Sre.M} (h : Ends k m r) : r.outcome.isSome = true := by
  induction h with
  | done h => exact h
  | step _ _ _ ih => exact ih
theorem Ends.run {k : Nat} {m r : Sre.M} (h : Ends k m r) : ∀ j, k ≤ j → M.runFor j m = r := by
  induction h with
  | @done m hm =>
    intro j _
    cases j with
    | zero => rfl
    | succ j => rw [M.runFor, if_pos hm]
  | @step k m m' r h1 h2 _ ih =>
    intro j hj
    cases j with
    | zero => omega
    | succ j => rw [M.runFor, h1, h2]; exact ih j (by omega)
theorem Ends.more {k : Nat} {m r : Sre.M} (h : Ends k m r) : ∀ j, j < k → (M.runFor j m).outcome = none ∧ Ends (k - j) (M.runFor j m) r := by
  induction h with
  | done _ => intro j hj; omega
  | @step k m m' r h1 h2 h3 ih =>
    intro j hj
    cases j with
    | zero => exact ⟨h1, .step h1 h2 h3⟩
    | succ j =>
      rw [M.runFor, h1, h2]
      have := ih j (by omega)
      simpa [Nat.add_sub_add_right] using this

def re1 : Array Nat := #[14, 4, 0, 1, 1, 6, 1, 16, 46, 1]
def mk1 (text : Array Nat) (n start pc pos hand : Nat) (o mu : Bool) (fr : List Sre.Frame) (wt : Nat) (ans : Option Bool) (seen : Seen) (out : Option Sre.Outcome) : Sre.M :=
  { code := re1, text, lim := n, start, lastStart := n, mustAdvance := mu, pc, pos, handed := hand, outermost := o, marks := #[], frames := fr, weight := wt, answer := ans, seen, outcome := out }
def f1 (s : Nat) (o : Bool) : Sre.Frame := { wait := .nextStart, pc := 5, pos := s, outermost := o }
section
variable {text : Array Nat} {n s h : Nat} {o mu : Bool} {sn : Seen}
theorem a1 (hb : s = 0 ∨ text[s - 1]?.getD 0 = 10) : (mk1 text n s 5 s h o mu [f1 s o] 1 none sn none).step = mk1 text n s 7 s h o mu [f1 s o] 1 none ((sn.add 6).add 44) none := by
  simp [mk1, M.step, M.exec, M.word, re1, ops, M.isAt, hb]
theorem a1n (hb : ¬ (s = 0 ∨ text[s - 1]?.getD 0 = 10)) : (mk1 text n s 5 s h o mu [f1 s o] 1 none sn none).step = mk1 text n s 5 s h o mu [f1 s o] 1 (some false) ((sn.add 6).add 44) none := by
  simp [mk1, M.step, M.exec, M.word, re1, ops, M.isAt, hb, M.say]
theorem aF (hb : s < n) {pc pos : Nat} : (mk1 text n s pc pos h o mu [f1 s o] 1 (some false) sn none).step = mk1 text n (s + 1) 5 (s + 1) (s + 1) false false [f1 (s + 1) false] 1 none sn none := by
  simp [mk1, f1, M.step, M.resume, hb, M.attemptFrom, M.hasFirstSet, M.attemptAt, M.attempt, re1, ops]
theorem aF0 (hb : ¬ s < n) {pc pos : Nat} : (mk1 text n s pc pos h o mu [f1 s o] 1 (some false) sn none).step = mk1 text n s 5 s h o mu [] 0 (some false) sn none := by
  simp [mk1, f1, M.step, M.resume, hb, M.say]
theorem aF1 {pc pos : Nat} : (mk1 text n s pc pos h o mu [] 0 (some false) sn none).step = mk1 text n s pc pos h o mu [] 0 (some false) sn (some .failed) := by
  simp [mk1, M.step]
theorem a2e (hb : n ≤ s) : (mk1 text n s 7 s h o mu [f1 s o] 1 none sn none).step = mk1 text n s 7 s h o mu [f1 s o] 1 (some false) (sn.add 16) none := by
  simp [mk1, M.step, M.exec, M.word, re1, ops, hb, M.say]
theorem a2n (hb : ¬ n ≤ s) (hc : text[s]?.getD 0 ≠ 46) : (mk1 text n s 7 s h o mu [f1 s o] 1 none sn none).step = mk1 text n s 7 s h o mu [f1 s o] 1 (some false) (sn.add 16) none := by
  have hc' := beq_eq_false_iff_ne.mpr hc
  simp [mk1, M.step, M.exec, M.word, re1, ops, hb, M.say, accepts, hc']
theorem a2 (hb : ¬ n ≤ s) (hc : text[s]?.getD 0 = 46) : (mk1 text n s 7 s h o mu [f1 s o] 1 none sn none).step = mk1 text n s 9 (s + 1) h o mu [f1 s o] 1 none (sn.add 16) none := by
  simp [mk1, M.step, M.exec, M.word, re1, ops, hb, accepts, hc, itemWidth]
theorem a3 : (mk1 text n s 9 (s + 1) h o mu [f1 s o] 1 none sn none).step = mk1 text n s 9 (s + 1) (s + 1) o mu [f1 s o] 1 (some true) (sn.add 1) none := by
  simp [mk1, M.step, M.exec, M.word, re1, ops, M.say]
theorem a4 : (mk1 text n s 9 (s + 1) (s + 1) o mu [f1 s o] 1 (some true) sn none).step = mk1 text n s 5 s (s + 1) o mu [] 0 (some true) sn none := by
  simp [mk1, M.step, f1, M.resume, M.say]
theorem a5 {pc pos : Nat} : (mk1 text n s pc pos h o mu [] 0 (some true) sn none).step = mk1 text n s pc pos h o mu [] 0 (some true) sn (some .matched) := by
  simp [mk1, M.step]
end
/-- where a dot stands at a row's head -/
def at1 (text : Array Nat) (s : Nat) : Bool := (s == 0 || text.getD (s - 1) 0 == 10) && text.getD s 0 == 46
def nx (p : Nat → Bool) (n : Nat) : Nat → Nat → Option Nat
  | 0, _ => none
  | f + 1, s => if s < n then (if p s then some s else nx p n f (s + 1)) else none
theorem at1_iff {text : Array Nat} {s : Nat} : at1 text s = true ↔ (s = 0 ∨ text[s - 1]?.getD 0 = 10) ∧ text[s]?.getD 0 = 46 := by
  simp [at1]
def Found (r : Sre.M) (x : Option (Nat × Nat)) : Prop := match x with
  | some (b, e) => (∃ w, r.outcome = some w ∧ (match w with | .matched => True | _ => False)) ∧ r.start = b ∧ r.handed = e
  | none => ∃ w, r.outcome = some w ∧ (match w with | .failed => True | _ => False)
theorem srch1 (text : Array Nat) (n : Nat) : ∀ (f s : Nat) (h : Nat) (o mu : Bool) (sn : Seen), n + 1 - s ≤ f → ∃ k r, k ≤ 4 * (n + 1 - s) + 5 ∧ Ends k (mk1 text n s 5 s h o mu [f1 s o] 1 none sn none) r ∧
    Found r ((nx (at1 text) n f s).map fun b => (b, b + 1))
  | 0, s, h, o, mu, sn, hf => by
    have hs : ¬ s < n := by omega
    by_cases hb : s = 0 ∨ text[s - 1]?.getD 0 = 10
    · exact ⟨_, _, by omega, .step rfl (a1 hb) (.step rfl (a2e (by omega)) (.step rfl (aF0 hs) (.step rfl aF1 (.done rfl)))), ⟨_, rfl, trivial⟩⟩
    · exact ⟨_, _, by omega, .step rfl (a1n hb) (.step rfl (aF0 hs) (.step rfl aF1 (.done rfl))), ⟨_, rfl, trivial⟩⟩
  | f + 1, s, h, o, mu, sn, hf => by
    by_cases hs : s < n
    · cases hp : at1 text s with
      | true =>
        obtain ⟨hb, hc⟩ := at1_iff.mp hp
        refine ⟨_, _, by omega, .step rfl (a1 hb) (.step rfl (a2 (by omega) hc) (.step rfl a3 (.step rfl a4 (.step rfl a5 (.done rfl))))), ?_⟩
        rw [nx, if_pos hs, if_pos hp]
        exact ⟨⟨_, rfl, trivial⟩, rfl, rfl⟩
      | false =>
        have hx : nx (at1 text) n (f + 1) s = nx (at1 text) n f (s + 1) := by rw [nx, if_pos hs, hp]; rfl
        rw [hx]
        by_cases hb : s = 0 ∨ text[s - 1]?.getD 0 = 10
        · have hc : text[s]?.getD 0 ≠ 46 := fun hc => by rw [at1_iff.mpr ⟨hb, hc⟩] at hp; cases hp
          obtain ⟨k, r, hk, he, hr⟩ := srch1 text n f (s + 1) (s + 1) false false _ (by omega)
          exact ⟨k + 1 + 1 + 1, r, by omega, .step rfl (a1 hb) (.step rfl (a2n (by omega) hc) (.step rfl (aF hs) he)), hr⟩
        · obtain ⟨k, r, hk, he, hr⟩ := srch1 text n f (s + 1) (s + 1) false false _ (by omega)
          exact ⟨k + 1 + 1, r, by omega, .step rfl (a1n hb) (.step rfl (aF hs) he), hr⟩
    · have hx : nx (at1 text) n (f + 1) s = none := by rw [nx, if_neg hs]
      rw [hx]
      by_cases hb : s = 0 ∨ text[s - 1]?.getD 0 = 10
      · exact ⟨_, _, by omega, .step rfl (a1 hb) (.step rfl (a2e (by omega)) (.step rfl (aF0 hs) (.step rfl aF1 (.done rfl)))), ⟨_, rfl, trivial⟩⟩
      · exact ⟨_, _, by omega, .step rfl (a1n hb) (.step rfl (aF0 hs) (.step rfl aF1 (.done rfl))), ⟨_, rfl, trivial⟩⟩
theorem find1 (text : Array Nat) (s : Nat) (hs : s ≤ text.size) (mu : Bool) : ∃ k r, k ≤ 4 * (text.size + 1) + 6 ∧ Ends k (forSearch re1 text 0 s text.size mu) r ∧ Found r ((nx (at1 text) text.size (text.size + 1) s).map fun b => (b, b + 1)) := by
  by_cases h : s = text.size
  · have e : ∃ x : Sre.M, forSearch re1 text 0 s text.size mu = { x with frames := [], answer := some false, outcome := none } := by
      subst h
      refine ⟨forSearch re1 text 0 text.size text.size mu, ?_⟩
      unfold forSearch
      rw [if_pos (by simp [header, re1, ops])]
      rfl
    obtain ⟨x, e⟩ := e
    rw [e]
    refine ⟨1, _, by omega, .step rfl rfl (.done rfl), ?_⟩
    rw [nx, if_neg (by omega)]
    exact ⟨_, rfl, trivial⟩
  · have e : forSearch re1 text 0 s text.size mu = mk1 text text.size s 5 s s true mu [f1 s true] 1 none (({} : Seen).add 14) none := by
      unfold forSearch
      rw [if_neg (by simp [header, re1, ops]; omega)]
      simp [mk1, f1, M.attemptFrom, M.hasFirstSet, M.attemptAt, M.attempt, re1, ops, header]
      rfl
    rw [e]
    obtain ⟨k, r, hk, he, hr⟩ := srch1 text text.size (text.size + 1) s s true mu (({} : Seen).add 14) (by omega)
    exact ⟨k, r, by omega, he, hr⟩

def re2 : Array Nat := #[14, 9, 4, 1, 2, 16, 10, 16, 13, 0, 7, 7, 16, 13, 16, 10, 15, 18, 5, 16, 10, 15, 13, 11, 16, 13, 5, 5, 0, 16, 10, 1, 15, 2, 0, 1]
def mk2 (text : Array Nat) (n start pc pos hand : Nat) (o mu : Bool) (fr : List Sre.Frame) (wt : Nat) (ans : Option Bool) (seen : Seen) (out : Option Sre.Outcome) : Sre.M :=
  { code := re2, text, lim := n, start, lastStart := n, mustAdvance := mu, pc, pos, handed := hand, outermost := o, marks := #[], frames := fr, weight := wt, answer := ans, seen, outcome := out }
def g1 (s : Nat) (o : Bool) : Sre.Frame := { wait := .nextStart, pc := 10, pos := s, outermost := o }
def g2 (pc s : Nat) (o : Bool) : Sre.Frame := { wait := .nextBranch, pc := pc, pos := s, outermost := o, kept := { lastmark := -1, lastindex := -1, whole := false, marks := #[] } }
def g3 (s : Nat) (o : Bool) : Sre.Frame := { wait := .lookNot, pc := 26, pos := s, outermost := o, kept := { lastmark := -1, lastindex := -1, whole := false, marks := #[] } }
section
variable {text : Array Nat} {n s h : Nat} {o mu : Bool} {sn : Seen}
theorem b1 : (mk2 text n s 10 s h o mu [g1 s o] 1 none sn none).step = mk2 text n s 12 s s o mu [g2 11 s o, g1 s o] 2 none (sn.add 7) none := by
  simp [mk2, g2, M.step, M.exec, M.word, re2, ops, M.alternative, M.keep, M.attempt, M.frame]
/-- a literal that stands -/
theorem b2 {c pc q : Nat} {oo : Bool} {fr : List Sre.Frame} {wt : Nat} (hp : (pc = 12 ∧ c = 13) ∨ (pc = 14 ∧ c = 10) ∨ (pc = 19 ∧ c = 10) ∨ (pc = 24 ∧ c = 13)) (hq : ¬ n ≤ q) (hc : text[q]?.getD 0 = c) :
    (mk2 text n s pc q h oo mu fr wt none sn none).step = mk2 text n s (pc + 2) (q + 1) h oo mu fr wt none (sn.add 16) none := by
  rcases hp with ⟨rfl, rfl⟩ | ⟨rfl, rfl⟩ | ⟨rfl, rfl⟩ | ⟨rfl, rfl⟩ <;> simp [mk2, M.step, M.exec, M.word, re2, ops, hq, accepts, hc, itemWidth]
theorem b2n {c pc q : Nat} {oo : Bool} {fr : List Sre.Frame} {wt : Nat} (hp : (pc = 12 ∧ c = 13) ∨ (pc = 14 ∧ c = 10) ∨ (pc = 19 ∧ c = 10) ∨ (pc = 29 ∧ c = 10)) (hc : n ≤ q ∨ text[q]?.getD 0 ≠ c) :
    (mk2 text n s pc q h oo mu fr wt none sn none).step = mk2 text n s pc q h oo mu fr wt (some false) (sn.add 16) none := by
  by_cases hq : n ≤ q
  · rcases hp with ⟨rfl, rfl⟩ | ⟨rfl, rfl⟩ | ⟨rfl, rfl⟩ | ⟨rfl, rfl⟩ <;> simp [mk2, M.step, M.exec, M.word, re2, ops, hq, M.say]
  · have hc := beq_eq_false_iff_ne.mpr (hc.resolve_left hq)
    rcases hp with ⟨rfl, rfl⟩ | ⟨rfl, rfl⟩ | ⟨rfl, rfl⟩ | ⟨rfl, rfl⟩ <;> simp [mk2, M.step, M.exec, M.word, re2, ops, hq, accepts, hc, M.say]
/-- on to the next branch -/
theorem b3 {pc q : Nat} : (mk2 text n s pc q h o mu [g2 11 s o, g1 s o] 2 (some false) sn none).step = mk2 text n s 19 s s o mu [g2 18 s o, g1 s o] 2 none sn none := by
  simp [mk2, g2, M.step, M.resume, M.putBack, M.alternative, M.attempt, M.frame, re2]
theorem b4 {pc q : Nat} : (mk2 text n s pc q h o mu [g2 18 s o, g1 s o] 2 (some false) sn none).step = mk2 text n s 24 s s o mu [g2 23 s o, g1 s o] 2 none sn none := by
  simp [mk2, g2, M.step, M.resume, M.putBack, M.alternative, M.attempt, M.frame, re2]
theorem b5 {fr : List Sre.Frame} {q : Nat} {wt : Nat} {pc : Nat} (hp : pc = 16 ∨ pc = 21 ∨ pc = 32) : (mk2 text n s pc q h o mu fr wt none sn none).step = mk2 text n s 35 q h o mu fr wt none (sn.add 15) none := by
  rcases hp with rfl | rfl | rfl <;> simp [mk2, M.step, M.exec, M.word, re2, ops]
theorem b6 {fr : List Sre.Frame} {q : Nat} {wt : Nat} (hq : q ≠ s) : (mk2 text n s 35 q h o mu fr wt none sn none).step = mk2 text n s 35 q q o mu fr wt (some true) (sn.add 1) none := by
  simp [mk2, M.step, M.exec, M.word, re2, ops, M.say, hq]
theorem b7 {pc q k : Nat} : (mk2 text n s pc q h o mu [g2 k s o, g1 s o] 2 (some true) sn none).step = mk2 text n s k s h o mu [g1 s o] 1 (some true) sn none := by
  simp [mk2, g2, M.step, M.resume, M.say]
theorem b8 {pc q : Nat} : (mk2 text n s pc q h o mu [g1 s o] 1 (some true) sn none).step = mk2 text n s 10 s h o mu [] 0 (some true) sn none := by
  simp [mk2, g1, M.step, M.resume, M.say]
theorem b9 {pc q : Nat} : (mk2 text n s pc q h o mu [] 0 (some true) sn none).step = mk2 text n s pc q h o mu [] 0 (some true) sn (some .matched) := by
  simp [mk2, M.step]
theorem b10 {q : Nat} {fr : List Sre.Frame} : (mk2 text n s 26 q h o mu fr 2 none sn none).step = mk2 text n s 29 q q false mu (g3 q o :: fr) 3 none (sn.add 5) none := by
  simp [mk2, g3, M.step, M.exec, M.word, re2, ops, M.keep, M.attempt, M.frame]
theorem b11 {pc q q' : Nat} {oo : Bool} {fr : List Sre.Frame} : (mk2 text n s pc q' h oo mu (g3 q o :: fr) 3 (some false) sn none).step = mk2 text n s 32 q h o mu fr 2 none sn none := by
  simp [mk2, g3, M.step, M.resume, M.putBack, M.word, re2]
end
def at2 (text : Array Nat) (s : Nat) : Bool := text.getD s 0 == 10 || text.getD s 0 == 13
def end2 (text : Array Nat) (s : Nat) : Nat := if text.getD s 0 == 13 && decide (s + 1 < text.size) && text.getD (s + 1) 0 == 10 then s + 2 else s + 1
theorem hit2 (text : Array Nat) (s : Nat) (h : Nat) (o mu : Bool) (sn : Seen) (hs : s < text.size) (ha : at2 text s = true) : ∃ k r, k ≤ 20 ∧ Ends k (mk2 text text.size s 10 s h o mu [g1 s o] 1 none sn none) r ∧ Found r (some (s, end2 text s)) := by
  have ha' : text[s]?.getD 0 = 10 ∨ text[s]?.getD 0 = 13 := by simpa [at2] using ha
  by_cases h13 : text[s]?.getD 0 = 13
  · by_cases hn : s + 1 < text.size ∧ text[s + 1]?.getD 0 = 10
    · have h' : text[s + 1]'hn.1 = 10 := by simpa [hn.1] using hn.2
      have e : end2 text s = s + 2 := by unfold end2; rw [if_pos]; simp [h13, hn.1, h']
      rw [e]
      exact ⟨_, _, by omega, .step rfl b1 (.step rfl (b2 (.inl ⟨rfl, rfl⟩) (by omega) h13) (.step rfl (b2 (.inr (.inl ⟨rfl, rfl⟩)) (by omega) hn.2) (.step rfl (b5 (.inl rfl)) (.step rfl (b6 (by omega)) (.step rfl b7 (.step rfl b8 (.step rfl b9 (.done rfl)))))))), ⟨_, rfl, trivial⟩, rfl, rfl⟩
    · have e : end2 text s = s + 1 := by
        unfold end2
        rw [if_neg]
        intro z
        simp at z
        exact hn ⟨z.1.2, z.2⟩
      have hno : text.size ≤ s + 1 ∨ text[s + 1]?.getD 0 ≠ 10 := by
        by_cases z : text.size ≤ s + 1
        · exact .inl z
        · exact .inr fun y => hn ⟨by omega, y⟩
      rw [e]
      exact ⟨_, _, by omega, .step rfl b1 (.step rfl (b2 (.inl ⟨rfl, rfl⟩) (by omega) h13) (.step rfl (b2n (.inr (.inl ⟨rfl, rfl⟩)) hno) (.step rfl b3 (.step rfl (b2n (.inr (.inr (.inl ⟨rfl, rfl⟩))) (.inr (by omega))) (.step rfl b4
        (.step rfl (b2 (.inr (.inr (.inr ⟨rfl, rfl⟩))) (by omega) h13) (.step rfl b10 (.step rfl (b2n (.inr (.inr (.inr ⟨rfl, rfl⟩))) hno) (.step rfl b11 (.step rfl (b5 (.inr (.inr rfl))) (.step rfl (b6 (by omega)) (.step rfl b7 (.step rfl b8 (.step rfl b9 (.done rfl))))))))))))))), ⟨_, rfl, trivial⟩, rfl, rfl⟩
  · have h10 : text[s]?.getD 0 = 10 := ha'.resolve_right h13
    have e : end2 text s = s + 1 := by
      unfold end2
      rw [if_neg]
      intro z
      simp at z
      exact h13 z.1.1
    rw [e]
    exact ⟨_, _, by omega, .step rfl b1 (.step rfl (b2n (.inl ⟨rfl, rfl⟩) (.inr h13)) (.step rfl b3 (.step rfl (b2 (.inr (.inr (.inl ⟨rfl, rfl⟩))) (by omega) h10) (.step rfl (b5 (.inr (.inl rfl))) (.step rfl (b6 (by omega)) (.step rfl b7 (.step rfl b8 (.step rfl b9 (.done rfl))))))))), ⟨_, rfl, trivial⟩, rfl, rfl⟩
theorem inSet2 (c : Nat) (sn : Seen) : inSet re2 c 36 5 true sn = .ok (c == 10 || c == 13, if c = 10 then sn.add 16 else if c = 13 then (sn.add 16).add 16 else ((sn.add 16).add 16).add 0) := by
  by_cases h1 : c = 10
  · subst h1; rfl
  · by_cases h2 : c = 13
    · subst h2; rfl
    · simp [inSet, re2, ops, h1, h2]
theorem adm2 (m : Sre.M) (hc : m.code = re2) : ∀ (f s : Nat) (sn : Seen), m.lim + 1 - s ≤ f → ∃ sn', admitted m f s sn = .ok (nx (at2 m.text) m.lim f s, sn')
  | 0, s, sn, hf => ⟨sn, rfl⟩
  | f + 1, s, sn, hf => by
    by_cases hs : s < m.lim
    · have e : inSet m.code (m.text.getD s 0) m.code.size 5 true sn = .ok (m.text.getD s 0 == 10 || m.text.getD s 0 == 13, if m.text.getD s 0 = 10 then sn.add 16 else if m.text.getD s 0 = 13 then (sn.add 16).add 16 else ((sn.add 16).add 16).add 0) := by rw [hc]; exact inSet2 _ sn
      cases hp : at2 m.text s with
      | true =>
        have hp' : (m.text.getD s 0 == 10 || m.text.getD s 0 == 13) = true := hp
        rw [hp'] at e
        have z : admitted m (f + 1) s sn = .ok (some s, if m.text.getD s 0 = 10 then sn.add 16 else if m.text.getD s 0 = 13 then (sn.add 16).add 16 else ((sn.add 16).add 16).add 0) := by
          rw [admitted, if_neg (by omega), e]
        exact ⟨_, by rw [z, nx, if_pos hs, if_pos hp]⟩
      | false =>
        have hp' : (m.text.getD s 0 == 10 || m.text.getD s 0 == 13) = false := hp
        rw [hp'] at e
        have hx : nx (at2 m.text) m.lim (f + 1) s = nx (at2 m.text) m.lim f (s + 1) := by rw [nx, if_pos hs, hp]; rfl
        rw [hx, admitted, if_neg (by omega), e]
        exact adm2 m hc f (s + 1) _ (by omega)
    · exact ⟨sn, by rw [admitted, if_pos (by omega), nx, if_neg hs]⟩
theorem nx_spec {p : Nat → Bool} {n : Nat} : ∀ {f s b : Nat}, nx p n f s = some b → s ≤ b ∧ b < n ∧ p b = true
  | 0, _, _, h => by cases h
  | f + 1, s, b, h => by
    unfold nx at h
    split at h
    · split at h
      · cases h; exact ⟨Nat.le_refl _, ‹_›, ‹_›⟩
      · have z := nx_spec h; exact ⟨by omega, z.2⟩
    · cases h
theorem find2 (text : Array Nat) (s : Nat) (hs : s ≤ text.size) (mu : Bool) : ∃ k r, k ≤ 21 ∧ Ends k (forSearch re2 text 0 s text.size mu) r ∧ Found r ((nx (at2 text) text.size (text.size + 1) s).map fun b => (b, end2 text b)) := by
  by_cases h : s = text.size
  · have e : ∃ x : Sre.M, forSearch re2 text 0 s text.size mu = { x with frames := [], answer := some false, outcome := none } := by
      subst h
      refine ⟨forSearch re2 text 0 text.size text.size mu, ?_⟩
      unfold forSearch
      rw [if_pos (by simp [header, re2, ops])]
      rfl
    obtain ⟨x, e⟩ := e
    rw [e]
    refine ⟨1, _, by omega, .step rfl rfl (.done rfl), ?_⟩
    rw [nx, if_neg (by omega)]
    exact ⟨_, rfl, trivial⟩
  · have e0 : ∃ m0 : Sre.M, m0.code = re2 ∧ m0.text = text ∧ m0.lim = text.size ∧ forSearch re2 text 0 s text.size mu = m0.attemptFrom s true ∧
        (∀ sn, ({ m0 with seen := sn } : Sre.M).say false = { m0 with seen := sn, frames := [], answer := some false, outcome := none }) ∧
        (∀ b sn, ({ m0 with mustAdvance := false, seen := sn } : Sre.M).attemptAt b true = mk2 text text.size b 10 b b true false [g1 b true] 1 none sn none) := by
      refine ⟨{ code := re2, text, lim := text.size, start := s, lastStart := text.size, mustAdvance := mu, pc := 10, pos := s, handed := s, marks := #[], seen := ({} : Seen).add 14 }, rfl, rfl, rfl, ?_, ?_, ?_⟩
      · unfold forSearch
        rw [if_neg (by simp [header, re2, ops]; omega)]
        simp [re2, ops, header]
        rfl
      · intro sn; rfl
      · intro b sn
        simp [mk2, g1, M.attemptAt, M.attempt]
    obtain ⟨m0, hc, ht, hl, e, hsay, hat⟩ := e0
    obtain ⟨sn', ha⟩ := adm2 m0 hc (m0.lim + 1 - s) s m0.seen (by omega)
    have hf : m0.hasFirstSet = true := by unfold M.hasFirstSet; rw [hc]; rfl
    have hfu : nx (at2 m0.text) m0.lim (m0.lim + 1 - s) s = nx (at2 text) text.size (text.size + 1) s := by
      rw [ht, hl]
      have : ∀ (f f' s : Nat), text.size + 1 - s ≤ f → text.size + 1 - s ≤ f' → nx (at2 text) text.size f s = nx (at2 text) text.size f' s := by
        intro f
        induction f with
        | zero => intro f' s h1 h2; cases f' with | zero => rfl | succ f' => rw [nx, nx, if_neg (by omega)]
        | succ f ih =>
          intro f' s h1 h2
          cases f' with
          | zero => rw [nx, nx, if_neg (by omega)]
          | succ f' =>
            rw [nx, nx]
            split
            · split
              · rfl
              · exact ih f' (s + 1) (by omega) (by omega)
            · rfl
      exact this _ _ _ (by omega) (by omega)
    rw [hfu] at ha
    rw [e, M.attemptFrom, hf]
    simp only [Bool.not_true, Bool.false_eq_true, if_false, ha]
    cases hx : nx (at2 text) text.size (text.size + 1) s with
    | none =>
      rw [hx] at ha
      simp only
      rw [hsay]
      exact ⟨1, _, by omega, .step rfl rfl (.done rfl), ⟨_, rfl, trivial⟩⟩
    | some b =>
      simp only
      rw [hat]
      obtain ⟨h1, h2, h3⟩ := nx_spec hx
      obtain ⟨k, r, hk, he, hr⟩ := hit2 text b b true false sn' h2 h3
      exact ⟨k, r, by omega, he, hr⟩
end Mine
end
section
open PySem PySem.W PyProof.Rows PySem.Calls PySem.Builtin.Re
set_option maxRecDepth 100000
namespace Mine
theorem slot_sub : Slot "re.Pattern" "sub" "re.Pattern.sub" :=
  .of (owner := "re.Pattern") (n := "sub") (by rw [typeLookup_type, builtinLookup_eq_fast]; kernel_rfl) (by decide +kernel) (by decide +kernel) (by decide +kernel)
    (by first | exact .inl (by decide +kernel) | exact .inr (by decide +kernel)) (by rw [isSubtype_type]; kernel_rfl)
theorem type_sub : typeOf (.builtin "re.Pattern.sub") = pure (.type "method_descriptor") := by show builtinType _ = _; rw [builtinType_eq_fast]; kernel_rfl
theorem entry_sub : entryFor table "re.Pattern.sub" = some Builtin.«re.Pattern.sub» := entryFor_of_tree (by kernel_rfl)
theorem entry_subloop : entryFor table "re.Pattern.sub.loop" = some Builtin.«re.Pattern.sub.loop» := entryFor_of_tree (by kernel_rfl)
theorem plain_subloop : plainId "re.Pattern.sub.loop" = true := by decide +kernel
theorem str_nocall : typeLookup (.type "str") "__call__" = pure none := by rw [typeLookup_type, builtinLookup_eq_fast]; kernel_rfl
theorem attrs_pat : PlainAttrs "re.Pattern" :=
  ⟨⟨"object.__getattribute__", by rw [typeLookup_type, builtinLookup_eq_fast]; kernel_rfl, by decide +kernel⟩, by rw [typeLookup_type, builtinLookup_eq_fast]; kernel_rfl⟩
theorem args_sub (a b c : Value) : argsOk "re.Pattern.sub" ⟨[a, b, c], []⟩ := by
  unfold argsOk; rw [signature?_of (id := "re.Pattern.sub") (n := ['b', 'u', 's']) (o := ['n', 'r', 'e', 't', 't', 'a', 'P', '.', 'e', 'r']) (rows := Manifest.sig_re_Pattern) (by kernel_rfl) (by kernel_rfl)]; kernel_rfl
section
variable {prog : Program} {w : World} {A : Around} {E : Value → Shared → Prop}
  {K : Frag} {mg mb : Str → Option Value} {os : OsState} {gs : Array GenState} {g : Heap} {L : Addr} {l l' : List (Str × Value)} {news news' : List (Addr × Obj)} {s : Shared} {env : Env}

theorem drive {Q : Sre.M → Shared → Prop} : ∀ (N k : Nat) (m r : Sre.M), Ends k m r → k ≤ 4 * N → 1 ≤ N → Q r s → wpAny (model prog w) A (reDrive N m) Q E s
  | 0, _, _, _, _, _, h, _ => absurd h (by decide)
  | N + 1, k, m, r, he, hk, _, hq => by
    unfold reDrive reTurnSteps
    by_cases h4 : k ≤ 4
    · rw [he.run 4 h4]
      show wpAny _ _ (if r.outcome.isSome = true then _ else _) _ _ _
      rw [if_pos he.out]
      exact wpAny_pure hq
    · obtain ⟨h1, h2⟩ := he.more 4 (by omega)
      show wpAny _ _ (if (Sre.M.runFor 4 m).outcome.isSome = true then _ else _) _ _ _
      rw [if_neg (by rw [h1]; exact Bool.false_ne_true)]
      exact wpAny_bind (wpAny_rule (drive N (k - 4) _ r h2 (by omega) (by omega) hq))
theorem toEnd {Q : Option Sre.M → Shared → Prop} {k : Nat} {m r : Sre.M} {x : Option (Nat × Nat)} (he : Ends k m r) (hk : k ≤ 4 * 2 ^ 64) (hf : Found r x)
    (hq : Q (x.map fun _ => r) s) : wpAny (model prog w) A (reRunToEnd m) Q E s := by
  unfold reRunToEnd
  refine wpAny_bind (drive _ k m r he hk (by decide) ?_)
  refine wpAny_bind (wpAny_forIn_list _ (fun _ _ s' => s' = s) _ (fun i _ _ s' e => ?_) (fun _ s' e => ?_) _ _ rfl)
  · subst e
    by_cases hb : r.seen.has i = true
    · rw [if_pos hb]; exact wpAny_bind (wpAny_rule (wpAny_pure rfl))
    · rw [if_neg hb]; exact wpAny_pure rfl
  · subst e
    cases x with
    | some be =>
      obtain ⟨⟨w, h1, h2⟩, _⟩ := hf
      cases w with
      | matched => rw [h1]; exact wpAny_pure hq
      | failed => exact h2.elim
      | stuck _ => exact h2.elim
    | none =>
      obtain ⟨w, h1, h2⟩ := hf
      cases w with
      | matched => exact h2.elim
      | failed => rw [h1]; exact wpAny_pure hq
      | stuck _ => exact h2.elim

/-- a pattern of the fragment -/
structure Pat (K : Frag) (p : Addr) (code : Array Nat) : Prop where
  po : ∃ fs ct its n dd sl t2 t6 dd' sl', K.lookup p = some ⟨.type "re.Pattern", none, .fields fs, sl'⟩ ∧ fs.getD 5 .none = .ref ct ∧ fs.getD 6 .none = .int 0 t6 ∧ fs.getD 2 .none = .int 0 t2 ∧
    K.lookup ct = some ⟨.type "tuple", dd, .seq its n, sl⟩ ∧ (its.map reRawOf).map (·.toNat) = code ∧ dd' = dd
theorem whole {p : Addr} {code : Array Nat} {x : Str} {t : Tok} {Q : ReTarget → Shared → Prop} (σ : Sx K mg mb os gs g L l news s) (hp : Pat K p code)
    (hq : Q { pattern := .ref p, string := .str x t, code, text := x.cps, kind := 0, groups := 0, pos := 0, lim := x.cps.size } s) : wpAny (model prog w) A (reWholeTarget (.ref p) (.str x t)) Q E s := by
  obtain ⟨fs, ct, its, n, dd, sl, t2, t6, _, _, h1, h2, h3, h4, h5, h6, _⟩ := hp
  have X := (σ.t.sub σ.keep).x
  unfold reWholeTarget
  refine wpAny_bind (wpAny_fieldsOf (X _ _ h1) rfl ?_)
  unfold reTextOf
  refine wpAny_bind ?_
  refine wpAny_bind (m := asStr? (.str x t)) (wpAny_of_eq (a := some x) rfl ?_)
  refine wpAny_pure ?_
  dsimp only
  rw [h2, h3, h4]
  dsimp only [reRawNat]
  refine wpAny_ite_split (fun h => absurd h (by decide)) fun _ => ?_
  refine wpAny_ite_split (fun h => absurd h (by decide)) fun _ => ?_
  unfold reNoCollectionInside
  refine wpAny_bind (wpAny_ite_split (fun h => absurd h (by decide)) fun _ => wpAny_pure ?_)
  unfold reRawItems
  refine wpAny_bind (wpAny_bind (wpAny_seqItems (X _ _ h5) rfl (wpAny_pure (wpAny_pure ?_))))
  dsimp only [Option.getD]
  rw [h6]
  exact hq

/-- what a search gives, purely -/
structure Fnd (code : Array Nat) (nxt : Array Nat → Nat → Option (Nat × Nat)) : Prop where
  run : ∀ (text : Array Nat) (s : Nat), s ≤ text.size → ∀ mu, ∃ k r, k ≤ 4 * (text.size + 1) + 21 ∧ Ends k (Sre.forSearch code text 0 s text.size mu) r ∧ Found r (nxt text s)
  lim : ∀ {text : Array Nat} {s b e : Nat}, nxt text s = some (b, e) → s ≤ b ∧ b < e ∧ e ≤ text.size
/-- the pieces -/
def pcs (nxt : Array Nat → Nat → Option (Nat × Nat)) (rep x : Str) : Nat → Nat → List Str
  | 0, _ => []
  | f + 1, d => match nxt x.cps d with
    | some (b, e) => (if d < b then [⟨x.cps.extract d b⟩] else []) ++ rep :: pcs nxt rep x f e
    | none => if d < x.cps.size then [⟨x.cps.extract d x.cps.size⟩] else []
def subs (nxt : Array Nat → Nat → Option (Nat × Nat)) (rep x : Str) : Str := Txt.join "" (pcs nxt rep x (x.cps.size + 1) 0)
variable {code : Array Nat} {nxt : Array Nat → Nat → Option (Nat × Nat)} {rep x : Str}
theorem pcs_sz (F : Fnd code nxt) (hr : rep.length ≤ 2) : ∀ (f d : Nat), d ≤ x.cps.size → ((pcs nxt rep x f d).map (·.length)).sum ≤ 3 * (x.cps.size - d) ∧ (pcs nxt rep x f d).length ≤ 2 * (x.cps.size - d) + 1
  | 0, d, _ => by simp [pcs]
  | f + 1, d, hd => by
    unfold pcs
    split
    · rename_i b e h
      obtain ⟨h1, h2, h3⟩ := F.lim h
      have ih := pcs_sz F hr f e h3
      rw [List.map_append, List.sum_append, List.length_append, List.map_cons, List.sum_cons, List.length_cons]
      have a1 : ((if d < b then [(⟨x.cps.extract d b⟩ : Str)] else []).map (·.length)).sum ≤ b - d ∧ (if d < b then [(⟨x.cps.extract d b⟩ : Str)] else []).length ≤ 1 := by
        split
        · refine ⟨?_, by simp⟩
          simp only [List.map_cons, List.map_nil, List.sum_cons, List.sum_nil]
          show (x.cps.extract d b).size + 0 ≤ _
          rw [Array.size_extract]; omega
        · simp
      omega
    · split
      · refine ⟨?_, by simp⟩
        simp only [List.map_cons, List.map_nil, List.sum_cons, List.sum_nil]
        show (x.cps.extract d x.cps.size).size + 0 ≤ _
        rw [Array.size_extract]; omega
      · simp
theorem slice0 {text : Array Nat} {b e : Nat} {Q : Value → Shared → Prop} (hz : text.size ≤ 100000) (h : Q (.str ⟨text.extract b e⟩ s.toks) { s with toks := s.toks + 1 }) : wpAny (model prog w) A (reSlice text 0 b e) Q E s := by
  unfold reSlice
  refine wpAny_ite_split (fun _ => wpAny_mkStr h ?_) fun h => absurd rfl h
  show (text.extract b e).size ≤ sizeLine
  rw [Array.size_extract, sizeLine]; omega
theorem up_push {a : Addr} {its : List Value} {n : Nat} {v : Value} (σ : Sx K mg mb os gs g L l ((a, listOf its.toArray n) :: news) s) : Sx K mg mb os gs g L l ((a, listOf (its ++ [v]).toArray (n + 1)) :: news) { s with heap := s.heap.update a (Obj.mapSeq (·.push v)) } := by
  refine σ.up (tk := s.toks) .head (Heap.SameBut.update ..) ?_
  have q := PySem.IsL.update (σ.get (.head _)) (fun xs => xs.push v)
  rw [if_neg (by simp)] at q
  simpa using q
theorem subLoop {p a : Addr} {t tr : Tok} {R : Except Value Flow → Shared → Prop} (hp : Pat K p code) (F : Fnd code nxt) (hr : rep.length ≤ 2) (hx : x.cps.size ≤ 100000)
    (h : ∀ s' n' its' t', Sx K mg mb os gs g L l ((a, listOf (List.toArray its') n') :: news) s' → R (.ok (.ret (.str (subs nxt rep x) t'))) s') :
    ∀ (f d : Nat) (its : List Value) (ys : List Str) (n : Nat) (k : Nat) (must : Bool) (s : Shared), x.cps.size + 1 - d ≤ f → d ≤ x.cps.size → StrsAre its ys → ys ++ pcs nxt rep x f d = pcs nxt rep x (x.cps.size + 1) 0 →
      its.length + 2 * (x.cps.size - d) ≤ 2 * x.cps.size →
      Sx K mg mb os gs g L l ((a, listOf its.toArray n) :: news) s →
      codeAny (model prog w) A (.builtin "re.Pattern.sub.loop" ⟨[.ref p, .str x t, .str rep tr, rawInt 0, rawInt 0, rawInt k, rawInt d, rawInt d, .bool must, .ref a, .bool false], []⟩) R s := by
  intro f
  induction f with
  | zero => intro d _ _ _ _ _ _ h1 h2; omega
  | succ f ih =>
    intro d its ys n k must s hf hd hi he hl σ
    refine codeAny_builtin entry_subloop ?_
    unfold Builtin.«re.Pattern.sub.loop»
    dsimp only [rawInt]
    refine wpAny_bind (whole σ hp ?_)
    dsimp only
    rw [if_pos (by rfl)]
    unfold reLiteralCannotBeTurned
    refine wpAny_bind (wpAny_bind (m := asStr? (.str rep tr)) (wpAny_of_eq (a := some rep) rfl ?_))
    rw [if_neg (by simp)]
    refine wpAny_pure ?_
    rw [if_neg (by simp)]
    unfold reNextFound
    dsimp only
    obtain ⟨k1, r, hk, hE, hF⟩ := F.run x.cps d hd must
    rw [Int.toNat_natCast]
    cases hn : nxt x.cps d with
    | some be =>
      obtain ⟨b, e⟩ := be
      rw [hn] at hF
      refine wpAny_bind (toEnd hE (by omega) hF ?_)
      obtain ⟨_, f1, f2⟩ := hF
      obtain ⟨h1, h2, h3⟩ := F.lim hn
      dsimp only [Option.map]
      rw [f1, f2]
      have next : ∀ (its' : List Value) (ys' : List Str) (n' : Nat) (s' : Shared), StrsAre its' ys' → ys' = ys ++ (if d < b then [(⟨x.cps.extract d b⟩ : Str)] else []) → its'.length ≤ its.length + 1 →
          Sx K mg mb os gs g L l ((a, listOf its'.toArray n') :: news) s' →
          wpAny (model prog w) (A.under (.builtin "re.Pattern.sub.loop" ⟨[.ref p, .str x t, .str rep tr, .int 0 0, .int 0 0, .int k 0, .int d 0, .int d 0, .bool must, .ref a, .bool false], []⟩))
            (do
              updateSeq a fun x => x.push (.str rep tr)
              again (.builtin "re.Pattern.sub.loop" ⟨[.ref p, .str x t, .str rep tr, .int 0 0, .int 0 0, .int (k + 1) 0, .int e 0, .int e 0, .bool (e == b), .ref a, .bool false], []⟩))
            (fun fin s' => match fin with | .done f => R (.ok f) s' | .again c' => c'.quiet = true ∧ codeAny (model prog w) A c' R s') (fun e s' => R (.error e) s') s' := by
        intro its' ys' n' s' hi' hy' hl' σ'
        refine wpAny_bind (wpAny_updateSeq (σ'.get (.head _)) rfl (wpAny_pure ⟨plainId_quiet plain_subloop _, ?_⟩) (by simp [sizeLine]; omega) (by simp [sizeLine]; omega))
        refine ih e (its' ++ [.str rep tr]) (ys' ++ [rep]) _ (k + 1) _ _ (by omega) h3 (strs_app hi' (.cons _ _ .nil)) ?_ ?_ (up_push σ')
        · rw [← he, hy']
          conv => rhs; unfold pcs
          rw [hn]
          simp
        · rw [List.length_append, List.length_singleton]; omega
      refine wpAny_ite_split (fun hb => ?_) fun hb => ?_
      · refine wpAny_bind (slice0 hx ?_)
        refine wpAny_bind (wpAny_updateSeq ((σ.tok _).get (.head _)) rfl ?_ (by simp [sizeLine]; omega) (by simp [sizeLine]; omega))
        refine wpAny_ite_split (fun _ => ?_) fun h => absurd rfl h
        refine wpAny_bind (wpAny_pure ?_)
        refine wpAny_ite_split (fun _ => ?_) fun h => absurd (by rfl) h
        exact next (its ++ [.str ⟨x.cps.extract d b⟩ s.toks]) (ys ++ [⟨x.cps.extract d b⟩]) _ _ (strs_app hi (.cons _ _ .nil)) (by rw [if_pos hb]) (by simp) (up_push (σ.tok _))
      · refine wpAny_ite_split (fun _ => ?_) fun h => absurd rfl h
        refine wpAny_bind (wpAny_pure ?_)
        refine wpAny_ite_split (fun _ => ?_) fun h => absurd (by rfl) h
        exact next its ys _ _ hi (by rw [if_neg hb, List.append_nil]) (by omega) σ
    | none =>
      rw [hn] at hF
      refine wpAny_bind (toEnd hE (by omega) hF ?_)
      dsimp only [Option.map]
      have fin : ∀ (its' : List Value) (ys' : List Str) (n' : Nat) (s' : Shared), StrsAre its' ys' → ys' = pcs nxt rep x (x.cps.size + 1) 0 →
          Sx K mg mb os gs g L l ((a, listOf its'.toArray n') :: news) s' →
          wpAny (model prog w) (A.under (.builtin "re.Pattern.sub.loop" ⟨[.ref p, .str x t, .str rep tr, .int 0 0, .int 0 0, .int k 0, .int d 0, .int d 0, .bool must, .ref a, .bool false], []⟩))
            (do
              let joiner ← reSlice x.cps 0 0 0
              let text ← if ((← seqItems? (.ref a)).getD #[]).isEmpty then pure joiner else call (.builtin (if (0 : Nat) == 0 then "str.join" else "bytes.join")) [joiner, .ref a]
              if false = true then ret (← holding [text] do newTuple [text, ← mkInt k]) else ret text)
            (fun fin s' => match fin with | .done f => R (.ok f) s' | .again c' => c'.quiet = true ∧ codeAny (model prog w) A c' R s') (fun e s' => R (.error e) s') s' := by
        intro its' ys' n' s' hi' hy' σ'
        have hz := pcs_sz (x := x) F hr (x.cps.size + 1) 0 (Nat.zero_le _)
        refine wpAny_bind (slice0 hx ?_)
        refine wpAny_bind (wpAny_seqItems ((σ'.tok _).get (.head _)) rfl ?_)
        have em : (⟨x.cps.extract 0 0⟩ : Str) = "" := by simp; rfl
        refine wpAny_ite_split (fun hb => ?_) fun hb => ?_
        · refine wpAny_bind (wpAny_pure ?_)
          refine wpAny_ite_split (fun h => absurd h (by decide)) fun _ => wpAny_pure ?_
          have e0 : its' = [] := by simpa using hb
          subst e0
          cases hi'
          have := h _ n' [] s'.toks (σ'.tok (s'.toks + 1))
          rw [em]
          rw [subs, ← hy'] at this
          exact this
        · refine wpAny_bind ?_
          rw [em]
          refine r_join (σ'.tok _) (.head _) hi' ?_ fun t' s'' σ'' => ?_
          · rw [hy']
            show _ + _ * 0 ≤ _
            omega
          · refine wpAny_ite_split (fun h => absurd h (by decide)) fun _ => wpAny_pure ?_
            rw [hy']
            exact h _ _ _ _ σ''
      refine wpAny_ite_split (fun hb => ?_) fun hb => ?_
      · refine wpAny_bind (slice0 hx ?_)
        refine wpAny_bind (wpAny_updateSeq ((σ.tok _).get (.head _)) rfl ?_ (by simp [sizeLine]; omega) (by simp [sizeLine]; omega))
        refine fin (its ++ [.str ⟨x.cps.extract d x.cps.size⟩ s.toks]) (ys ++ [⟨x.cps.extract d x.cps.size⟩]) _ _ (strs_app hi (.cons _ _ .nil)) ?_ (up_push (σ.tok _))
        rw [← he]
        conv => rhs; unfold pcs
        rw [hn]
        simp [hb]
      · refine fin its ys _ _ hi ?_ σ
        rw [← he]
        conv => rhs; unfold pcs
        rw [hn]
        simp [hb]
theorem r_subs {p : Addr} {t tr : Tok} {Q : Value → Shared → Prop} (σ : Sx K mg mb os gs g L l news s) (hp : Pat K p code) (F : Fnd code nxt) (hr : rep.length ≤ 2) (h92 : rep.cps.contains 92 = false) (hx : x.cps.size ≤ 100000)
    (h : ∀ t' s', Sx K mg mb os gs g L l news s' → Q (.str (subs nxt rep x) t') s') : wpAny (model prog w) A (call (.builtin "re.Pattern.sub") [.ref p, .str rep tr, .str x t]) Q E s := by
  have hT : s.TypeIs (.ref p) "re.Pattern" := by
    obtain ⟨fs, ct, its, n, dd, sl, t2, t6, _, _, h1, _⟩ := hp
    exact ⟨_, (σ.t.sub σ.keep).x _ _ h1, rfl⟩
  refine wpAny_call (codeAny_call_builtin slot_sub.plain entry_sub (slot_sub.check _ _ _ _ _ _ _ _ hT (args_sub _ _ _) ?_))
  unfold Builtin.«re.Pattern.sub» reSubstitute
  dsimp only
  refine wpAny_bind (m := reNamed "re.Pattern.sub" "sub" ["repl", "string", "count"] 2 [.str rep tr, .str x t] []) (wpAny_of_eq (a := [some (.str rep tr), some (.str x t), none]) (by rfl) ?_)
  dsimp only
  refine wpAny_bind (wpAny_pure ?_)
  refine wpAny_bind (wpAny_specialOf (typeIs_str _ _ _) str_nocall ?_)
  refine wpAny_ite_split (fun h => absurd h (by decide)) fun _ => ?_
  refine wpAny_bind (m := asStr? (.str rep tr)) (wpAny_of_eq (a := some rep) rfl ?_)
  dsimp only
  refine wpAny_bind (wpAny_pure ?_)
  refine wpAny_ite_split (fun h => absurd h (by decide)) fun _ => ?_
  refine wpAny_ite_split (fun _ => ?_) fun h => absurd (by rw [h92]; rfl) h
  refine wpAny_bind (wpAny_pure ?_)
  dsimp only
  refine wpAny_bind (wpAny_holding (whole σ hp ?_))
  refine wpAny_ite_split (fun h => absurd h (by decide)) fun _ => ?_
  refine wpAny_bind (r_newList σ (by decide) fun a s' σ' => ?_)
  refine wpAny_pure ⟨plainId_quiet plain_subloop _, ?_⟩
  exact subLoop hp F hr hx (fun s' n' its' t' σ' => h _ _ σ'.drop1) (x.cps.size + 1) 0 [] [] 0 0 false _ (by omega) (Nat.zero_le _) .nil rfl (by simp) σ'
def nxt1 (text : Array Nat) (s : Nat) : Option (Nat × Nat) := (nx (at1 text) text.size (text.size + 1) s).map fun b => (b, b + 1)
def nxt2 (text : Array Nat) (s : Nat) : Option (Nat × Nat) := (nx (at2 text) text.size (text.size + 1) s).map fun b => (b, end2 text b)
theorem fnd1 : Fnd re1 nxt1 where
  run := fun text s hs mu => by
    obtain ⟨k, r, h1, h2, h3⟩ := find1 text s hs mu
    exact ⟨k, r, by omega, h2, h3⟩
  lim := fun {text s b e} h => by
    unfold nxt1 at h
    rw [Option.map_eq_some_iff] at h
    obtain ⟨b', h1, h2⟩ := h
    cases h2
    obtain ⟨h3, h4, h5⟩ := nx_spec h1
    omega
theorem fnd2 : Fnd re2 nxt2 where
  run := fun text s hs mu => by
    obtain ⟨k, r, h1, h2, h3⟩ := find2 text s hs mu
    exact ⟨k, r, by omega, h2, h3⟩
  lim := fun {text s b e} h => by
    unfold nxt2 at h
    rw [Option.map_eq_some_iff] at h
    obtain ⟨b', h1, h2⟩ := h
    cases h2
    obtain ⟨h3, h4, h5⟩ := nx_spec h1
    have he : (end2 text b = b + 2 ∧ b + 1 < text.size) ∨ end2 text b = b + 1 := by
      unfold end2
      by_cases hc : (text.getD b 0 == 13 && decide (b + 1 < text.size) && text.getD (b + 1) 0 == 10) = true
      · rw [if_pos hc]
        simp only [Bool.and_eq_true, decide_eq_true_eq] at hc
        exact .inl ⟨rfl, hc.1.2⟩
      · rw [if_neg hc]; exact .inr rfl
    omega
/-- what quotedata gives -/
def qd (x : Str) : Str := subs nxt1 ".." (subs nxt2 "\r\n" x)
end
end Mine
end
section
open PySem PySem.W PyProof.Rows PySem.Calls PySem.Builtin.Re
set_option maxRecDepth 100000
namespace Mine
def fl (ys : List Str) : List Nat := ys.flatMap (·.cps.toList)
theorem join_fl (ys : List Str) : Txt.join "" ys = ⟨(fl ys).toArray⟩ := by
  rw [show Txt.join "" ys = Str.join "" ys from StrLaws.glued_eq_join _ _]
  induction ys with
  | nil => rfl
  | cons y ys ih =>
    cases ys with
    | nil =>
      show y = _
      cases y with | mk c => simp [fl]
    | cons z zs =>
      have e : Str.join "" (y :: z :: zs) = y ++ "" ++ Str.join "" (z :: zs) := rfl
      rw [e, ih]
      cases y with | mk c =>
      show (⟨(c ++ #[]) ++ _⟩ : Str) = _
      congr 1
      apply Array.toList_inj.mp
      simp [fl]
theorem nx_some {p : Nat → Bool} {n : Nat} : ∀ {k s f : Nat}, k < f → s + k < n → (∀ j, j < k → p (s + j) = false) → p (s + k) = true → nx p n f s = some (s + k)
  | 0, s, f + 1, _, h2, _, h4 => by rw [nx, if_pos (by omega), if_pos (show p s = true from h4)]; rfl
  | k + 1, s, f + 1, h1, h2, h3, h4 => by
    rw [nx, if_pos (by omega), if_neg (by rw [show p s = false from h3 0 (by omega)]; exact Bool.false_ne_true), nx_some (k := k) (by omega) (by omega) (fun j hj => by rw [Nat.add_assoc, Nat.add_comm 1 j]; exact h3 (j + 1) (by omega)) (by rw [Nat.add_assoc, Nat.add_comm 1 k]; exact h4)]
    congr 1; omega
theorem nx_none {p : Nat → Bool} {n : Nat} : ∀ (f s : Nat), (∀ j, s ≤ j → j < n → p j = false) → nx p n f s = none
  | 0, _, _ => rfl
  | f + 1, s, h => by
    rw [nx]
    split
    · rename_i hs
      rw [if_neg (by rw [h s (Nat.le_refl _) hs]; exact Bool.false_ne_true)]
      exact nx_none f (s + 1) fun j hj hn => h j (by omega) hn
    · rfl
def sepL : Nat → List Nat
  | 0 => [10]
  | 1 => [13]
  | _ => [13, 10]
def mail : List (Nat × Nat) → List Nat
  | [] => []
  | (n, k) :: r => List.replicate n 46 ++ sepL k ++ mail r
def mailS (r : List (Nat × Nat)) : Str := ⟨(mail r).toArray⟩
theorem gD {pre l : List Nat} {i j : Nat} (h : i = pre.length + j) : (pre ++ l).toArray.getD i 0 = l.getD j 0 := by
  subst h
  simp only [List.getD_eq_getElem?_getD, Array.getD_eq_getD_getElem?, List.getElem?_toArray]
  rw [List.getElem?_append_right (Nat.le_add_right _ _), Nat.add_sub_cancel_left]
theorem mail_head {r : List (Nat × Nat)} (h : ∀ q ∈ r, 1 ≤ q.1) : (mail r).getD 0 0 = 46 ∨ r = [] := by
  cases r with
  | nil => exact .inr rfl
  | cons q r =>
    obtain ⟨n, k⟩ := q
    have := h _ (.head _)
    obtain ⟨m, rfl⟩ : ∃ m, n = m + 1 := ⟨n - 1, by simp at this; omega⟩
    exact .inl rfl
theorem ex_mid {a b c : List Nat} {i j : Nat} (hi : i = a.length) (hj : j = a.length + b.length) : ((a ++ (b ++ c)).toArray.extract i j).toList = b := by
  subst hi hj
  simp
theorem p2 : ∀ (r : List (Nat × Nat)) (pre : List Nat) (f : Nat), (∀ q ∈ r, 1 ≤ q.1) → r.length < f → fl (pcs nxt2 "\r\n" ⟨(pre ++ mail r).toArray⟩ f pre.length) = mail (r.map fun q => (q.1, 2))
  | [], pre, f + 1, _, _ => by
    have e : nxt2 (pre ++ mail []).toArray pre.length = none := by
      unfold nxt2
      rw [nx_none _ _ fun j h1 h2 => by simp [mail] at h2; omega]
      rfl
    unfold pcs
    rw [e]
    simp [mail, fl]
  | (n, k) :: r, pre, f + 1, h, hf => by
    have hn : 1 ≤ n := h _ (.head _)
    have hr : ∀ q ∈ r, 1 ≤ q.1 := fun q hq => h q (.tail _ hq)
    have hsz : (pre ++ mail ((n, k) :: r)).toArray.size = pre.length + (n + ((sepL k).length + (mail r).length)) := by simp [mail]
    have hs1 : 1 ≤ (sepL k).length := by unfold sepL; split <;> simp
    have e1 : pre ++ mail ((n, k) :: r) = (pre ++ List.replicate n 46) ++ (sepL k ++ mail r) := by simp [mail]
    have hb : ∀ j, (pre ++ mail ((n, k) :: r)).toArray.getD (pre.length + n + j) 0 = (sepL k ++ mail r).getD j 0 := fun j => by
      rw [e1, gD (j := j) (by simp)]
    have ha : ∀ j, j < n → (pre ++ mail ((n, k) :: r)).toArray.getD (pre.length + j) 0 = 46 := fun j hj => by
      rw [gD (j := j) rfl]
      simp [mail, List.getD_eq_getElem?_getD, List.getElem?_append, hj]
    have hh : (mail r).getD 0 0 ≠ 10 := by
      rcases mail_head hr with z | rfl
      · rw [z]; decide
      · decide
    have en : nx (at2 (pre ++ mail ((n, k) :: r)).toArray) (pre ++ mail ((n, k) :: r)).toArray.size ((pre ++ mail ((n, k) :: r)).toArray.size + 1) pre.length = some (pre.length + n) := by
      refine nx_some (by omega) (by omega) (fun j hj => ?_) ?_
      · unfold at2; rw [ha j hj]; rfl
      · unfold at2
        have := hb 0
        rw [Nat.add_zero] at this
        rw [this]
        unfold sepL; split <;> rfl
    have ee : end2 (pre ++ mail ((n, k) :: r)).toArray (pre.length + n) = pre.length + n + (sepL k).length := by
      have h0 := hb 0
      have h1 := hb 1
      rw [Nat.add_zero] at h0
      unfold end2
      rw [h0, h1, hsz]
      unfold sepL
      split
      · rfl
      · have z : ([13] ++ mail r).getD 1 0 = (mail r).getD 0 0 := rfl
        rw [z]
        rw [if_neg (by simp only [Bool.and_eq_true, beq_iff_eq, not_and]; exact fun _ => hh)]
        rfl
      · rw [if_pos (by simp; omega)]
        rfl
    have e : nxt2 (pre ++ mail ((n, k) :: r)).toArray pre.length = some (pre.length + n, pre.length + n + (sepL k).length) := by
      unfold nxt2; rw [en, Option.map_some, ee]
    unfold pcs
    rw [e]
    dsimp only
    rw [if_pos (by omega)]
    have e2 : pre ++ mail ((n, k) :: r) = (pre ++ List.replicate n 46 ++ sepL k) ++ mail r := by simp [mail]
    have ih := p2 r (pre ++ List.replicate n 46 ++ sepL k) f hr (by simp at hf; omega)
    have el : (pre ++ List.replicate n 46 ++ sepL k).length = pre.length + n + (sepL k).length := by simp; omega
    rw [← e2, el] at ih
    have ex : ((pre ++ mail ((n, k) :: r)).toArray.extract pre.length (pre.length + n)).toList = List.replicate n 46 := by
      have : pre ++ mail ((n, k) :: r) = pre ++ (List.replicate n 46 ++ (sepL k ++ mail r)) := by simp [mail]
      rw [this]
      exact ex_mid rfl (by simp)
    show fl ([_] ++ _ :: _) = _
    unfold fl at ih ⊢
    rw [List.flatMap_append, List.flatMap_cons, List.flatMap_cons, List.flatMap_nil, List.append_nil, ih, ex]
    rw [List.map_cons, mail, List.append_assoc]
    rfl
theorem mail2_sz (r : List (Nat × Nat)) : r.length ≤ (mail r).length := by
  induction r with
  | nil => exact Nat.le_refl _
  | cons q r ih =>
    obtain ⟨n, k⟩ := q
    have hs1 : 1 ≤ (sepL k).length := by unfold sepL; split <;> simp
    simp [mail]; omega
theorem subs2 {r : List (Nat × Nat)} (h : ∀ q ∈ r, 1 ≤ q.1) : subs nxt2 "\r\n" (mailS r) = mailS (r.map fun q => (q.1, 2)) := by
  unfold subs
  rw [join_fl]
  have := p2 r [] ((mailS r).cps.size + 1) h (by have := mail2_sz r; show _ < (mail r).toArray.size + 1; simp; omega)
  simp only [List.nil_append, List.length_nil] at this
  show (⟨(fl (pcs nxt2 "\r\n" ⟨(mail r).toArray⟩ ((mailS r).cps.size + 1) 0)).toArray⟩ : Str) = _
  rw [this]; rfl
/-- the rows behind a head's first sign -/
def m2 (r : List Nat) : List Nat := mail (r.map fun q => (q, 2))
theorem m2_cons (n : Nat) (r : List Nat) : m2 (n :: r) = List.replicate n 46 ++ 13 :: 10 :: m2 r := by simp [m2, mail, sepL]
theorem gA (pre : List Nat) (n : Nat) (rest : List Nat) (i : Nat) (h : i ≤ n) : (pre ++ (List.replicate (n + 1) 46 ++ 13 :: 10 :: rest)).toArray.getD (pre.length + i) 0 = 46 := by
  rw [gD (j := i) rfl, List.getD_eq_getElem?_getD, List.getElem?_append_left (by simp; omega), List.getElem?_replicate, if_pos (by omega)]
  rfl
theorem gB (pre : List Nat) (n : Nat) (rest : List Nat) (i : Nat) : (pre ++ (List.replicate (n + 1) 46 ++ 13 :: 10 :: rest)).toArray.getD (pre.length + (n + 1) + i) 0 = (13 :: 10 :: rest).getD i 0 := by
  rw [gD (j := n + 1 + i) (by omega), List.getD_eq_getElem?_getD, List.getElem?_append_right (by simp), List.length_replicate, Nat.add_sub_cancel_left, List.getD_eq_getElem?_getD]
theorem no1 (pre : List Nat) (n : Nat) (rest : List Nat) (j : Nat) (h : j < n + 2) : at1 (pre ++ (List.replicate (n + 1) 46 ++ 13 :: 10 :: rest)).toArray (pre.length + 1 + j) = false := by
  unfold at1
  by_cases hj : j ≤ n
  · rw [show pre.length + 1 + j - 1 = pre.length + j by omega, gA _ _ _ _ hj]
    simp
  · rw [show pre.length + 1 + j = pre.length + (n + 1) + 1 by omega, gB]
    simp
theorem p1 : ∀ (r : List Nat) (n : Nat) (pre : List Nat) (f : Nat), (∀ q ∈ r, 1 ≤ q) → r.length < f →
    fl (pcs nxt1 ".." ⟨(pre ++ (List.replicate (n + 1) 46 ++ 13 :: 10 :: m2 r)).toArray⟩ f (pre.length + 1)) = List.replicate n 46 ++ 13 :: 10 :: m2 (r.map (· + 1))
  | [], n, pre, f + 1, _, _ => by
    have hsz : (pre ++ (List.replicate (n + 1) 46 ++ 13 :: 10 :: m2 [])).toArray.size = pre.length + (n + 3) := by simp [m2, mail]
    have e : nxt1 (pre ++ (List.replicate (n + 1) 46 ++ 13 :: 10 :: m2 [])).toArray (pre.length + 1) = none := by
      unfold nxt1
      rw [nx_none _ _ fun j h1 h2 => ?_]
      · rfl
      · rw [hsz] at h2
        obtain ⟨i, rfl⟩ : ∃ i, j = pre.length + 1 + i := ⟨j - (pre.length + 1), by omega⟩
        exact no1 _ _ _ _ (by omega)
    unfold pcs
    rw [e]
    dsimp only
    rw [if_pos (by omega)]
    have ex := ex_mid (a := pre ++ [46]) (b := List.replicate n 46 ++ [13, 10]) (c := []) (i := pre.length + 1) (j := pre.length + (n + 3)) (by simp) (by simp; omega)
    have el : pre ++ [46] ++ (List.replicate n 46 ++ [13, 10] ++ []) = pre ++ (List.replicate (n + 1) 46 ++ 13 :: 10 :: m2 []) := by simp [m2, mail, List.replicate_succ]
    rw [el, ← hsz] at ex
    unfold fl
    rw [List.flatMap_cons, List.flatMap_nil, List.append_nil, ex]
    rfl
  | m :: r, n, pre, f + 1, h, hf => by
    have hm : 1 ≤ m := h _ (.head _)
    obtain ⟨k, rfl⟩ : ∃ k, m = k + 1 := ⟨m - 1, by omega⟩
    have hr : ∀ q ∈ r, 1 ≤ q := fun q hq => h q (.tail _ hq)
    have hsz : (pre ++ (List.replicate (n + 1) 46 ++ 13 :: 10 :: m2 ((k + 1) :: r))).toArray.size = pre.length + (n + 3) + (m2 ((k + 1) :: r)).length := by simp; omega
    have hk : 1 ≤ (m2 ((k + 1) :: r)).length := by rw [m2_cons]; simp; omega
    have e : nxt1 (pre ++ (List.replicate (n + 1) 46 ++ 13 :: 10 :: m2 ((k + 1) :: r))).toArray (pre.length + 1) = some (pre.length + (n + 3), pre.length + (n + 3) + 1) := by
      unfold nxt1
      rw [nx_some (k := n + 2) (by omega) (by omega) (fun j hj => no1 _ _ _ _ hj) ?_]
      · rw [Option.map_some, show pre.length + 1 + (n + 2) = pre.length + (n + 3) by omega]
      · unfold at1
        rw [show pre.length + 1 + (n + 2) - 1 = pre.length + (n + 1) + 1 by omega, gB, show pre.length + 1 + (n + 2) = pre.length + (n + 1) + 2 by omega, gB]
        rw [m2_cons]
        simp [List.replicate_succ]
    unfold pcs
    rw [e]
    dsimp only
    rw [if_pos (by omega)]
    have ex := ex_mid (a := pre ++ [46]) (b := List.replicate n 46 ++ [13, 10]) (c := m2 ((k + 1) :: r)) (i := pre.length + 1) (j := pre.length + (n + 3)) (by simp) (by simp; omega)
    have el : pre ++ [46] ++ (List.replicate n 46 ++ [13, 10] ++ m2 ((k + 1) :: r)) = pre ++ (List.replicate (n + 1) 46 ++ 13 :: 10 :: m2 ((k + 1) :: r)) := by simp [List.replicate_succ]
    rw [el] at ex
    have ih := p1 r k (pre ++ (List.replicate (n + 1) 46 ++ [13, 10])) f hr (by simp at hf; omega)
    have e2 : pre ++ (List.replicate (n + 1) 46 ++ [13, 10]) ++ (List.replicate (k + 1) 46 ++ 13 :: 10 :: m2 r) = pre ++ (List.replicate (n + 1) 46 ++ 13 :: 10 :: m2 ((k + 1) :: r)) := by rw [m2_cons]; simp
    have e3 : (pre ++ (List.replicate (n + 1) 46 ++ [13, 10])).length + 1 = pre.length + (n + 3) + 1 := by simp
    rw [e2, e3] at ih
    unfold fl at ih ⊢
    show List.flatMap _ ([_] ++ _ :: _) = _
    rw [List.flatMap_append, List.flatMap_cons, List.flatMap_cons, List.flatMap_nil, List.append_nil, ih, ex]
    rw [List.map_cons, m2_cons]
    show _ = _ ++ 13 :: 10 :: (List.replicate (k + 2) 46 ++ _)
    rw [List.replicate_succ, List.replicate_succ]
    have : (Str.ofString "..").cps.toList = [46, 46] := by decide
    rw [this]
    simp
theorem subs1 {r : List Nat} (h : ∀ q ∈ r, 1 ≤ q) : subs nxt1 ".." ⟨(m2 r).toArray⟩ = ⟨(m2 (r.map (· + 1))).toArray⟩ := by
  unfold subs
  rw [join_fl]
  congr 2
  cases r with
  | nil => decide
  | cons n r =>
    have hn : 1 ≤ n := h _ (.head _)
    obtain ⟨k, rfl⟩ : ∃ k, n = k + 1 := ⟨n - 1, by omega⟩
    have hr : ∀ q ∈ r, 1 ≤ q := fun q hq => h q (.tail _ hq)
    have e : nxt1 (m2 ((k + 1) :: r)).toArray 0 = some (0, 1) := by
      unfold nxt1
      rw [nx_some (k := 0) (by omega) (by rw [m2_cons]; simp; omega) (fun j hj => by omega) ?_]
      · rfl
      · rw [m2_cons]; simp [at1, List.replicate_succ]
    show fl (pcs nxt1 ".." ⟨(m2 ((k + 1) :: r)).toArray⟩ (_ + 1) 0) = _
    unfold pcs
    rw [e]
    dsimp only
    rw [if_neg (by decide)]
    have ih := p1 r k [] ((m2 ((k + 1) :: r)).toArray.size) hr (by have := mail2_sz (((k + 1) :: r).map fun q => (q, 2)); simp at this; simp [m2]; omega)
    rw [List.nil_append, ← m2_cons] at ih
    unfold fl at ih ⊢
    rw [List.nil_append, List.flatMap_cons, show ([] : List Nat).length + 1 = 1 from rfl] at *
    rw [ih, List.map_cons, m2_cons]
    show _ = (List.replicate (k + 2) 46 ++ _)
    rw [List.replicate_succ, List.replicate_succ]
    have : (Str.ofString "..").cps.toList = [46, 46] := by decide
    rw [this]
    simp
theorem qd_mail {r : List (Nat × Nat)} (h : ∀ q ∈ r, 1 ≤ q.1) : qd (mailS r) = mailS (r.map fun q => (q.1 + 1, 2)) := by
  unfold qd
  rw [subs2 h]
  have e : mailS (r.map fun q => (q.1, 2)) = ⟨(m2 (r.map (·.1))).toArray⟩ := by
    simp [mailS, m2]; rfl
  rw [e, subs1 (by intro q hq; obtain ⟨z, hz, rfl⟩ := List.mem_map.mp hq; exact h z hz)]
  simp [mailS, m2]; rfl
end Mine
end
section
open PySem PySem.W PyProof.Rows PySem.Calls
set_option maxRecDepth 100000
namespace Mine
section
variable {prog : Program} {w : World} {A : Around} {E : Value → Shared → Prop}
  {K : Frag} {mg mb : Str → Option Value} {os : OsState} {gs : Array GenState} {g : Heap} {L : Addr} {l l' : List (Str × Value)} {news news' : List (Addr × Obj)} {s : Shared} {env : Env}

/-- what a comprehension leaves -/
theorem Sx.comp {own : List (Addr × Obj)} {D : Addr} {ys : Array Value} {h' : Heap} {tk : Nat} (σ : Sx K mg mb os gs g L l (own ++ news) s) (hD : s.heap.get? D = none) (hp : h'.PlainList D ys)
    (hk : ∀ b o, b ∉ own.map (·.1) → s.heap.get? b = some o → h'.get? b = some o) : ∃ c, Sx K mg mb os gs g L l ((D, listOf ys c) :: news) { s with heap := h', toks := tk } := by
  obtain ⟨c, hc⟩ := hp
  have nd := σ.nd
  rw [List.map_append, List.nodup_append] at nd
  obtain ⟨oL, hoL, n⟩ := σ.ns
  have nL : L ∉ own.map (·.1) := fun q => by
    obtain ⟨p, hp, e⟩ := List.mem_map.mp q
    exact (σ.nw p (List.mem_append_left _ hp)).2.1 e
  refine ⟨c, ⟨oL, hk _ _ nL hoL, n⟩, fun b o e => hk b o (fun q => ?_) (σ.keep b o e), σ.gL, fun p hp => ?_, ?_, σ.t, σ.os, σ.gs⟩
  · obtain ⟨p, hp, rfl⟩ := List.mem_map.mp q
    rw [(σ.nw p (List.mem_append_left _ hp)).2.2] at e; cases e
  · cases hp with
    | head =>
      refine ⟨hc, fun e => ?_, ?_⟩
      · rw [show L = D from e.symm, hD] at hoL; cases hoL
      · cases q : g.get? D with
        | none => rfl
        | some z => exact absurd (hD.symm.trans (σ.keep _ _ q)) (by simp)
    | tail _ z =>
      have y := σ.nw p (List.mem_append_right _ z)
      exact ⟨hk _ _ (fun q => nd.2.2 p.1 q p.1 (List.mem_map_of_mem z) rfl) y.1, y.2⟩
  · rw [List.map_cons, List.nodup_cons]
    refine ⟨fun hm => ?_, nd.2.1⟩
    obtain ⟨p, hp, e⟩ := List.mem_map.mp hm
    have y := (σ.nw p (List.mem_append_right _ hp)).1
    rw [e, hD] at y; cases y

/-- the frame of a comprehension -/
theorem Sx.inC {C : Addr} {x : Str} {v : Value} {m₃ : Str → Option Value} {s₃ : Shared} (σ : Sx K mg mb os gs g L l news s) (hC : s.heap.get? C = none) (hn : s₃.heap.Ns C m₃) (hm : m₃ x = some v) (hk : Sub s.heap s₃.heap) :
    ∃ oL, NsO oL l ∧ Sx K mg mb s₃.os s₃.gens g C [(x, v)] ((L, oL) :: news) s₃ := by
  obtain ⟨oL, hoL, n⟩ := σ.ns
  have gC : g.get? C = none := by
    cases q : g.get? C with
    | none => rfl
    | some z => exact absurd (hC.symm.trans (σ.keep _ _ q)) (by simp)
  have ne : ∀ {b : Addr} {o : Obj}, s.heap.get? b = some o → b ≠ C := fun e q => by rw [q, hC] at e; cases e
  refine ⟨oL, n, ns_of hn (fun p hp => by rw [List.mem_singleton.mp hp]; exact hm), σ.keep.trans hk, gC, fun p hp => ?_, ?_, σ.t, rfl, rfl⟩
  · cases hp with
    | head => exact ⟨hk _ _ hoL, ne hoL, σ.gL⟩
    | tail _ hp => exact ⟨hk _ _ (σ.nw p hp).1, ne (σ.nw p hp).1, (σ.nw p hp).2.2⟩
  · rw [List.map_cons, List.nodup_cons]
    refine ⟨fun hm => ?_, σ.nd⟩
    obtain ⟨p, hp, e⟩ := List.mem_map.mp hm
    exact (σ.nw p hp).2.1 e
theorem eq_of_get {its vs : List Value} (hl : vs.length = its.length) (h : ∀ (j : Nat) v, vs[j]? = some v → its.toArray[j]? = some v) : vs = its := by
  apply List.ext_getElem? 
  intro j
  by_cases hj : j < vs.length
  · have := h j vs[j] (by simp [hj])
    rw [List.getElem?_toArray] at this
    rw [this]; simp [hj]
  · rw [List.getElem?_eq_none (by omega), List.getElem?_eq_none (by omega)]

/-- [elt for x in a list (if ..)], plain tests and elements -/
theorem r_compL {elt iter : Expr} {x : Str} {px : Pos} {ifs : List Expr} {scope : Scope} {cl : List (Str × Addr)} {pos : Pos} {Q : Value → Shared → Prop} (ρ : Room A 0) (p : Value → Bool) (F : Value → Value → Prop)
    (h : wpAny (model prog w) A (eval iter env) (fun xv s₁ => ∃ a its, xv = .ref a ∧ Sx K mg mb os gs g L l news s₁ ∧ s₁.heap.IsList a (List.toArray its) ∧ its.length ≤ sizeLine ∧
      (∀ C v (s₃ : Shared) m₃ E', s₁.heap.get? C = none → v ∈ its → s₃.heap.Ns C m₃ → m₃ x = some v → Sub s₁.heap s₃.heap →
        wpAny (model prog w) A (forIn ifs true fun c r => if r = true then do let ok ← isTrue c (compEnvC scope cl C env) (eval c (compEnvC scope cl C env)); pure (ForInStep.yield ok) else pure (ForInStep.yield r)) (fun ok s₄ => ok = p v ∧ Keeps s₃ s₄) E' s₃) ∧
      (∀ C v (s₃ : Shared) m₃ E', s₁.heap.get? C = none → v ∈ its → p v = true → s₃.heap.Ns C m₃ → m₃ x = some v → Sub s₁.heap s₃.heap →
        wpAny (model prog w) A (eval elt (compEnvC scope cl C env)) (fun y s₄ => F v y ∧ Keeps s₃ s₄) E' s₃) ∧
      (∀ D s' ys c, Paired F (its.filter p) ys → Sx K mg mb os gs g L l ((D, listOf (List.toArray ys) c) :: news) s' → Q (.ref D) s')) E s)
    (hclos : closureFor scope env = pure cl := by rfl) (hcell : ∀ y ∈ scope.names, y.2 ≠ .cell := by decide) (hkind : scope.kind = .function := by rfl)
    (hnames : ∀ y ∈ scope.names, y.2 = .local → scope.names.lookup y.1 = some .local := by decide) (hx : scope.names.lookup x = some .local := by rfl)
    (hs : ∀ x, foldedSetIterable iter env x = pure x := by intro _; rfl) :
    wpAny (model prog w) A (eval (.ListComp elt [⟨.Name x px, iter, ifs, 0⟩] scope pos) env) Q E s := by
  refine wpAny_ListComp_free p F hclos hcell hkind hnames hx (wpAny_mono h (fun xv s₁ h₁ => ?_) fun _ _ z => z) hs
  obtain ⟨a, its, rfl, σ, hl, hz, ht, he, hq⟩ := h₁
  have hne : a ≠ s₁.heap.objs.size := by obtain ⟨o, ho, _⟩ := hl; exact Nat.ne_of_lt (Heap.lt_size ho)
  refine wpAny_pyIter_list hl ⟨s₁.heap.objs.size, _, _, _, _, _, rfl, Walks.list (w := w) (prog := prog) ρ.hh s₁.heap.objs.size a hne its.toArray, by rw [List.size_toArray]; exact hz, ?_, ?_, ?_, ?_⟩
  · exact ⟨⟨_, Heap.get?_push_size _ rfl, rfl, rfl⟩, hl.at fun o e => Heap.get?_push_of_some _ e⟩
  · intro b hb
    obtain ⟨o, ho, _⟩ := hl
    rw [Heap.size_push]
    rcases List.mem_cons.mp hb with z | z
    · rw [z]; exact Nat.lt_succ_self _
    · rw [List.mem_singleton.mp z]; exact Nat.lt_succ_of_lt (Heap.lt_size ho)
  · have sub : ∀ {s₃ : Shared}, (∀ b o, b ∉ [s₁.heap.objs.size] → (s₁.heap.push { cls := .type "list_iterator", data := .fields #[.ref a, .int 0 0] }).get? b = some o → s₃.heap.get? b = some o) → Sub s₁.heap s₃.heap := fun hk b o e => hk b o (fun q => by
      rw [List.mem_singleton.mp q] at e; exact absurd (Heap.lt_size e) (Nat.lt_irrefl _)) (Heap.get?_push_of_some _ e)
    have above : ∀ {C : Addr}, (s₁.heap.push { cls := .type "list_iterator", data := .fields #[.ref a, .int 0 0] }).objs.size ≤ C → s₁.heap.get? C = none := fun {C} hc => by
      cases q : s₁.heap.get? C with
      | none => rfl
      | some z => rw [Heap.size_push] at hc; exact absurd (Nat.lt_trans (Heap.lt_size q) hc) (Nat.lt_irrefl _)
    have mem : ∀ {i : Nat} {v : Value}, its.toArray[i]? = some v → v ∈ its := fun {i v} hv => List.mem_of_getElem? (by simpa using hv)
    exact ⟨fun C i v s₃ m₃ E' hc hP hn hm hk _ => ht C v s₃ m₃ E' (above hc) (mem hP) hn hm (sub hk), fun C i v s₃ m₃ E' hc hP hp hn hm hk _ => he C v s₃ m₃ E' (above hc) (mem hP) hp hn hm (sub hk)⟩
  · intro D h' tk ys vs hD _ hp hlen hP hF hk
    have e : vs = its := eq_of_get (by simpa using hlen) hP
    subst e
    obtain ⟨c, σ'⟩ := Sx.comp (own := [_]) (tk := tk) (σ.push { cls := .type "list_iterator", data := .fields #[.ref a, .int 0 0] }) hD hp hk
    refine hq D _ ys.toList c hF ?_
    rw [Array.toArray_toList]
    exact σ'
/-- [elt for x in a str] -/
theorem r_compS {elt iter : Expr} {x : Str} {px : Pos} {scope : Scope} {cl : List (Str × Addr)} {pos : Pos} {y : Str} {Q : Value → Shared → Prop} (ρ : Room A 0) (F : Value → Value → Prop)
    (h : wpAny (model prog w) A (eval iter env) (fun xv s₁ => ∃ t, xv = .str y t ∧ Sx K mg mb os gs g L l news s₁ ∧ y.cps.size ≤ sizeLine ∧
      (∀ C i v (s₃ : Shared) m₃ E', s₁.heap.get? C = none → SignAt y i v → s₃.heap.Ns C m₃ → m₃ x = some v → Sub s₁.heap s₃.heap →
        wpAny (model prog w) A (eval elt (compEnvC scope cl C env)) (fun y s₄ => F v y ∧ Keeps s₃ s₄) E' s₃) ∧
      (∀ D s' vs ys c, vs.length = y.cps.size → (∀ (j : Nat) v, vs[j]? = some v → SignAt y j v) → Paired F vs ys → Sx K mg mb os gs g L l ((D, listOf (List.toArray ys) c) :: news) s' → Q (.ref D) s')) E s)
    (hclos : closureFor scope env = pure cl := by rfl) (hcell : ∀ y ∈ scope.names, y.2 ≠ .cell := by decide) (hkind : scope.kind = .function := by rfl)
    (hnames : ∀ y ∈ scope.names, y.2 = .local → scope.names.lookup y.1 = some .local := by decide) (hx : scope.names.lookup x = some .local := by rfl)
    (hs : ∀ x, foldedSetIterable iter env x = pure x := by intro _; rfl) :
    wpAny (model prog w) A (eval (.ListComp elt [⟨.Name x px, iter, [], 0⟩] scope pos) env) Q E s := by
  refine wpAny_ListComp_free (fun _ => true) F hclos hcell hkind hnames hx (wpAny_mono h (fun xv s₁ h₁ => ?_) fun _ _ z => z) hs
  obtain ⟨t, rfl, σ, hz, he, hq⟩ := h₁
  refine wpAny_pyIter_str fun o St W st => ⟨s₁.heap.objs.size, _, _, _, _, _, rfl, W A ρ.hh, hz, st, ?_, ?_, ?_⟩
  · intro b hb
    rw [List.mem_singleton.mp hb]
    rw [Heap.size_push]; exact Nat.lt_succ_self _
  · have sub : ∀ {s₃ : Shared}, (∀ b o', b ∉ [s₁.heap.objs.size] → (s₁.heap.push o).get? b = some o' → s₃.heap.get? b = some o') → Sub s₁.heap s₃.heap := fun hk b o e => hk b o (fun q => by
      rw [List.mem_singleton.mp q] at e; exact absurd (Heap.lt_size e) (Nat.lt_irrefl _)) (Heap.get?_push_of_some _ e)
    have above : ∀ {C : Addr}, (s₁.heap.push o).objs.size ≤ C → s₁.heap.get? C = none := fun {C} hc => by
      cases q : s₁.heap.get? C with
      | none => rfl
      | some z => rw [Heap.size_push] at hc; exact absurd (Nat.lt_trans (Heap.lt_size q) hc) (Nat.lt_irrefl _)
    exact ⟨fun C i v s₃ m₃ E' _ hP hn hm hk _ => wpAny_pure ⟨rfl, ⟨_, _, rfl, fun _ _ e => e⟩⟩, fun C i v s₃ m₃ E' hc hP _ hn hm hk _ => he C i v s₃ m₃ E' (above hc) hP hn hm (sub hk)⟩
  · intro D h' tk ys vs hD _ hp hlen hP hF hk
    rw [List.filter_eq_self.mpr (fun _ _ => rfl)] at hF
    have τ : Sx K mg mb os gs g L l ([] ++ news) s₁ := σ
    obtain ⟨c, σ'⟩ := Sx.comp (own := []) (tk := tk) (s := s₁) (D := D) (h' := h') (ys := ys) τ (by
        cases q : s₁.heap.get? D with
        | none => rfl
        | some z => exact absurd (hD.symm.trans (Heap.get?_push_of_some _ q)) (by simp)) hp (fun b ob _ e => hk b ob (fun q => by
        rw [List.mem_singleton.mp q] at e; exact absurd (Heap.lt_size e) (Nat.lt_irrefl _)) (Heap.get?_push_of_some _ e))
    refine hq D _ vs ys.toList c hlen hP hF ?_
    rw [Array.toArray_toList]
    exact σ'

/-- a list's slice -/
theorem r_lsl {value : Expr} {lower upper : Option Expr} {p pos : Pos} {Q : Value → Shared → Prop}
    (h : wpAny (model prog w) A (eval value env) (fun o s₁ => wpAny (model prog w) A (evalPart lower env) (fun vl s₂ => wpAny (model prog w) A (evalPart upper env) (fun vu s₃ =>
      ∃ a its lo hi, o = .ref a ∧ s₃.heap.IsList a (List.toArray its) ∧ its.length ≤ sizeLine ∧ IsPart vl lo ∧ IsPart vu hi ∧ Sx K mg mb os gs g L l news s₃ ∧
        ∀ D s', Sx K mg mb os gs g L l ((D, listOf (slicePick its.toArray lo hi none) 0) :: news) s' → Q (.ref D) s') E s₂) E s₁) E s) :
    wpAny (model prog w) A (eval (.Subscript value (.Slice lower upper none p) pos) env) Q E s := by
  refine Subscript_ (wpAny_mono h (fun o s₁ h₁ => wpAny_Slice (wpAny_mono h₁ (fun vl s₂ h₂ => wpAny_mono h₂ (fun vu s₃ h₃ => evalPart_none_step ?_) fun _ _ z => z) fun _ _ z => z)) fun _ _ z => z)
  obtain ⟨a, its, lo, hi, rfl, hl, hz, pl, pu, σ, hq⟩ := h₃
  refine tail_any (hl.push _).typeIs slot_list_getitem.lookup (wpAny_getItem_list_slice (hl.push _) (Heap.IsSliceOf.new ..) pl pu .none (by simp) ?_ (by simpa using hz)) (by with_unfolding_all rfl)
  have := ((σ.push { cls := .type "slice", data := .fields #[vl, vu, .none] }).drop1).push { cls := .type "list", data := .seq (slicePick its.toArray lo hi none) }
  exact hq _ _ this
/-- a str's slice from a place on -/
theorem r_ssl {value slice : Expr} {x : Str} {t ui : Tok} {i : Int} {Q : Value → Shared → Prop} (σ : Sx K mg mb os gs g L l news s) (hz : x.length ≤ sizeLine) (h : ∀ t s', Sx K mg mb os gs g L l news s' → Q (.str (Txt.slice x (some i) none) t) s')
    (hs : subscripted slice false (.str x t) (.ref s.heap.objs.size) = operate [.ref s.heap.objs.size, .str x t] (getItem (.str x t) (.ref s.heap.objs.size)) := by with_unfolding_all rfl)
    (ht : ∀ r, letTemporaryGo value (.str x t) r = pure () := by intro _; with_unfolding_all rfl) :
    wpAny (model prog w) A (subscriptTail value slice (.str x t) (.ref s.heap.objs.size)) Q E { s with heap := s.heap.push { cls := .type "slice", data := .fields #[.int i ui, .none, .none] } } :=
  tail_of_ItemOn (SBH.sliceItem_sn (P := fun h => Sx K mg mb os gs g L l news { s with heap := h }) (fun _ ob a => a.ext (fun _ _ e => Heap.get?_push_of_some _ e) rfl rfl) σ (fun h' t' k a => h t' _ (a.tok k)) hz) hs ht
theorem r_sadd {x y : Str} {t u : Tok} {Q : Value → Shared → Prop} (σ : Sx K mg mb os gs g L l news s) (hz : x.length + y.length ≤ sizeLine) (h : ∀ t s', Sx K mg mb os gs g L l news s' → Q (.str (x ++ y) t) s') :
    wpAny (model prog w) A (binaryOp .Add (.str x t) (.str y u)) Q E s := SB.add (fun t' k => h t' _ (σ.tok k)) hz
theorem r_split {x y : Str} {t u : Tok} {Q : Value → Shared → Prop} (σ : Sx K mg mb os gs g L l news s) (hy : (y.length == 0) = false) (hz : x.length + 2 ≤ sizeLine)
    (h : ∀ D vs s', StrsAre vs (Txt.split x y) → Sx K mg mb os gs g L l ((D, listOf (List.toArray vs) 0) :: news) s' → Q (.ref D) s') :
    wpAny (model prog w) A (call (.builtin "str.split") [.str x t, .str y u]) Q E s := by
  have hn : (Builtin.Str.partsBetween x (Builtin.Str.occurrences x y 0 x.length (x.length + 1)) y.length).length ≤ sizeLine := by
    have e1 := StrLaws.occ_length_le x y 0 x.length (x.length + 1)
    rw [length_partsBetween]; omega
  cases h1 : (decide (x.length < y.length) || decide (Builtin.Str.strKind x < Builtin.Str.strKind y)) with
  | true => exact call_meets PySem.F.slot_str_split (typeIs_str _ _ _) PySem.F.entry_str_split (PySem.F.args_str_split_2 _ _) (meets_str_split_cannot_occur x y t u h1) (h _ [.str x t] _ (by rw [show Txt.split x y = [x] from if_pos h1]; exact .cons _ _ .nil) (σ.push _))
  | false =>
    cases hf : (Builtin.Str.occurrences x y 0 x.length (x.length + 1)).isEmpty with
    | true => exact call_meets PySem.F.slot_str_split (typeIs_str _ _ _) PySem.F.entry_str_split (PySem.F.args_str_split_2 _ _) (meets_str_split_not_found x y t u h1 hy hf) (h _ [.str x t] _ (by rw [show Txt.split x y = [x] from (if_neg (ne_true_of_eq_false h1)).trans (if_pos hf)]; exact .cons _ _ .nil) (σ.push _))
    | false =>
      refine call_meets PySem.F.slot_str_split (typeIs_str _ _ _) PySem.F.entry_str_split (PySem.F.args_str_split_2 _ _) (meets_str_split_sep x y t u h1 hy hf (by omega) hn) ?_
      have τ := (σ.tok (s.toks + (Builtin.Str.partsBetween x (Builtin.Str.occurrences x y 0 x.length (x.length + 1)) y.length).length)).push (listOf (strsFrom s.toks (Builtin.Str.partsBetween x (Builtin.Str.occurrences x y 0 x.length (x.length + 1)) y.length)).toArray 0)
      refine h _ _ _ ?_ τ
      rw [strsFrom_eq]
      have := strsAre_of_values (numbered s.toks (Builtin.Str.partsBetween x (Builtin.Str.occurrences x y 0 x.length (x.length + 1)) y.length))
      rw [numbered_texts] at this
      rw [show Txt.split x y = _ from (if_neg (ne_true_of_eq_false h1)).trans (if_neg (ne_true_of_eq_false hf))]
      exact this
end
end Mine
end
section
open PySem PySem.W PyProof.Rows PySem.Calls
set_option maxRecDepth 100000
namespace Mine
section
variable {prog : Program} {w : World} {A : Around} {E : Value → Shared → Prop}
  {K : Frag} {mg mb : Str → Option Value} {os : OsState} {gs : Array GenState} {g : Heap} {L : Addr} {l l' : List (Str × Value)} {news news' : List (Addr × Obj)} {s : Shared} {env : Env}

theorem bindL_spec {kindOf : Str → Option NameKind} : ∀ (b : List (Str × Value)) (m : Str → Option Value), (∀ x ∈ b, kindOf x.1 = some .local) → (b.map (·.1)).Nodup → (∀ p ∈ b, bindL kindOf b m p.1 = some p.2) ∧ ∀ y, y ∉ b.map (·.1) → bindL kindOf b m y = m y
  | [], m, _, _ => ⟨fun _ h => (by cases h), fun _ _ => rfl⟩
  | (n, v) :: r, m, hk, nd => by
    rw [List.map_cons, List.nodup_cons] at nd
    have ih := bindL_spec r (fun y => if y = n then some v else m y) (fun x hx => hk x (.tail _ hx)) nd.2
    have hn : kindOf n = some .local := hk (n, v) (.head _)
    unfold bindL
    rw [if_pos hn]
    refine ⟨fun p hp => ?_, fun y hy => ?_⟩
    · cases hp with
      | head => rw [ih.2 n nd.1]; simp
      | tail _ hp => exact ih.1 p hp
    · simp only [List.map_cons, List.mem_cons, not_or] at hy
      rw [ih.2 y hy.2, if_neg hy.1]
/-- a def with one cell of its own is called -/
theorem r_callC {n : Nat} {f : Addr} {name qual y : Str} {params : Arguments} {body : List Stmt} {scope : Scope} {dV kV doc pm cdv ct oc : Value} {an od : Option Addr} {osl : Array (Option Value)} {args : List Value} {binds : List (Str × Value)} {Q : Value → Shared → Prop}
    (σ : Sx K mg mb os gs g L l news s) (ρ : Room A (n + 1))
    (ho : K.lookup f = some ⟨oc, od, .func (fnOf name qual params body scope dV kV doc pm an cdv ct), osl⟩) (hcd : codeIn K cdv qual = true)
    (hbind : bindArgs (fnOf name qual params body scope dV kV doc pm an cdv ct) ⟨args, []⟩ = pure binds) (hloc : ∀ y ∈ binds, scope.names.lookup y.1 = some .local)
    (hnd : (binds.map (·.1)).Nodup) (hcl : ∀ k, cellsFrom k scope.names [] = [(y, k)])
    (h : ∀ L' oL oC s₁, NsO oL l → oC.data = .cell none → Room (A.deeper (callEnvC (fnOf name qual params body scope dV kV doc pm an cdv ct) L' f)) n → Sx K mg mb os gs g L' binds ((L' + 1, oC) :: (L, oL) :: news) s₁ →
      wpAny (model prog w) (A.deeper (callEnvC (fnOf name qual params body scope dV kV doc pm an cdv ct) L' f)) (execs body (callEnvC (fnOf name qual params body scope dV kV doc pm an cdv ct) L' f)) (fun fl s' => Q (match fl with | .ret v => v | _ => .none) s') (fun _ _ => False) s₁)
    (hco : scope.isCoroutine = false) (hgen : scope.isGenerator = false) (hk : scope.kind = .function) :
    wpAny (model prog w) A (call (.ref f) args) Q E s := by
  have X := σ.t.sub σ.keep
  refine wpAny_call (codeAny_call_cells (fd := fnOf name qual params body scope dV kV doc pm an cdv ct) (body := body) (binds := binds) ρ.depth (X.x _ _ ho) rfl X.lim (codeRec_of X.x hcd) rfl hbind rfl (fun x hx => .inl (hloc x hx)) (fun s₁ x => ?_) hco hgen hk)
  obtain ⟨oL, hoL, nL⟩ := σ.ns
  have gN : ∀ a, s.heap.objs.size ≤ a → g.get? a = none := fun a ha => by
    cases q : g.get? a with
    | none => rfl
    | some z => exact absurd (σ.glt q) (Nat.not_lt.mpr ha)
  have ne : ∀ p ∈ news, p.1 < s.heap.objs.size := fun p hp => Heap.lt_size (σ.nw p hp).1
  have hc : (callEnvC (fnOf name qual params body scope dV kV doc pm an cdv ct) s.heap.objs.size f).cells = [(y, s.heap.objs.size + 1)] := hcl _
  obtain ⟨oC, hoC, hdC⟩ := x.cell y (s.heap.objs.size + 1) (by rw [hc]; simp)
  have hbC : bindC (callEnvC (fnOf name qual params body scope dV kV doc pm an cdv ct) s.heap.objs.size f).kindOf binds (fun _ => none) y = none := by
    have : ∀ (b : List (Str × Value)) (m : Str → Option Value), (∀ x ∈ b, scope.names.lookup x.1 = some .local) → bindC (callEnvC (fnOf name qual params body scope dV kV doc pm an cdv ct) s.heap.objs.size f).kindOf b m = m := by
      intro b
      induction b with
      | nil => intro m _; rfl
      | cons p r ih =>
        intro m hb
        obtain ⟨n, v⟩ := p
        have e : (callEnvC (fnOf name qual params body scope dV kV doc pm an cdv ct) s.heap.objs.size f).kindOf n = some .local := hb (n, v) (.head _)
        unfold bindC
        rw [if_pos e]
        exact ih m fun x hx => hb x (.tail _ hx)
    rw [this _ _ hloc]
  rw [hbC] at hdC
  obtain ⟨h₁, tk, rfl⟩ := x.toInCall.same
  have hns := x.toInCall.ns
  have hk₁ := x.toInCall.keep
  have bl := bindL_spec (kindOf := (callEnvC (fnOf name qual params body scope dV kV doc pm an cdv ct) s.heap.objs.size f).kindOf) binds (fun _ => none) hloc hnd
  refine wpAny_mono (h s.heap.objs.size oL oC _ nL hdC ρ.deeper ⟨ns_of hns bl.1, σ.keep.trans hk₁, gN _ (Nat.le_refl _), fun p hp => ?_, ?_, σ.t, σ.os, σ.gs⟩) (fun _ _ x => x) (fun _ _ x => x.elim)
  · cases hp with
    | head => exact ⟨hoC, Nat.ne_of_gt (Nat.lt_succ_self _), gN _ (Nat.le_succ _)⟩
    | tail _ hp =>
      cases hp with
      | head => exact ⟨hk₁ _ _ hoL, Nat.ne_of_lt (Heap.lt_size hoL), σ.gL⟩
      | tail _ hp => exact ⟨hk₁ _ _ (σ.nw p hp).1, Nat.ne_of_lt (ne p hp), (σ.nw p hp).2.2⟩
  · rw [List.map_cons, List.map_cons, List.nodup_cons, List.nodup_cons]
    refine ⟨fun hm => ?_, fun hm => ?_, σ.nd⟩
    · rcases List.mem_cons.mp hm with e | hm
      · have e1 : s.heap.objs.size + 1 = L := e
        exact absurd (Nat.lt_trans (Nat.lt_succ_self _) (e1 ▸ Heap.lt_size hoL : s.heap.objs.size + 1 < s.heap.objs.size)) (Nat.lt_irrefl _)
      · obtain ⟨p, hp, e⟩ := List.mem_map.mp hm
        have e' : p.1 = s.heap.objs.size + 1 := e
        exact absurd (Nat.lt_trans (Nat.lt_succ_self _) (e' ▸ ne p hp : s.heap.objs.size + 1 < s.heap.objs.size)) (Nat.lt_irrefl _)
    · obtain ⟨p, hp, e⟩ := List.mem_map.mp hm
      exact (σ.nw p hp).2.1 e

/-- y = [elt for x in a list (if ..)] -/
theorem r_compA {elt iter : Expr} {x y : Str} {px py : Pos} {ifs : List Expr} {scope : Scope} {cl : List (Str × Addr)} {pos spos : Pos} {Q : Flow → Shared → Prop} (ρ : Room A 0) (p : Value → Bool) (F : Value → Value → Prop) (hr : Rm y l l')
    (h : wpAny (model prog w) A (eval iter env) (fun xv s₁ => ∃ a its, xv = .ref a ∧ Sx K mg mb os gs g L l news s₁ ∧ s₁.heap.IsList a (List.toArray its) ∧ its.length ≤ sizeLine ∧
      (∀ C v (s₃ : Shared) m₃ E', s₁.heap.get? C = none → v ∈ its → s₃.heap.Ns C m₃ → m₃ x = some v → Sub s₁.heap s₃.heap →
        wpAny (model prog w) A (forIn ifs true fun c r => if r = true then do let ok ← isTrue c (compEnvC scope cl C env) (eval c (compEnvC scope cl C env)); pure (ForInStep.yield ok) else pure (ForInStep.yield r)) (fun ok s₄ => ok = p v ∧ Keeps s₃ s₄) E' s₃) ∧
      (∀ C v (s₃ : Shared) m₃ E', s₁.heap.get? C = none → v ∈ its → p v = true → s₃.heap.Ns C m₃ → m₃ x = some v → Sub s₁.heap s₃.heap →
        wpAny (model prog w) A (eval elt (compEnvC scope cl C env)) (fun y s₄ => F v y ∧ Keeps s₃ s₄) E' s₃) ∧
      (∀ D s' ys c, Paired F (its.filter p) ys → Sx K mg mb os gs g L ((y, .ref D) :: l') ((D, listOf (List.toArray ys) c) :: news) s' → Q .next s')) E s)
    (hL : env.locals = L := by rfl)
    (hsw : swapsWith (.ListComp elt [⟨.Name x px, iter, ifs, 0⟩] scope pos) (some (.Name y py)) spos.line env = pure true := by rfl)
    (hclos : closureFor scope env = pure cl := by rfl) (hcell : ∀ y ∈ scope.names, y.2 ≠ .cell := by decide) (hkind : scope.kind = .function := by rfl)
    (hnames : ∀ y ∈ scope.names, y.2 = .local → scope.names.lookup y.1 = some .local := by decide) (hx : scope.names.lookup x = some .local := by rfl)
    (hy : env.kindOf y = some .local := by rfl) (hke : env.scope.kind = .function := by rfl)
    (hs : ∀ x, foldedSetIterable iter env x = pure x := by intro _; rfl) :
    wpAny (model prog w) A (exec (.Assign [.Name y py] (.ListComp elt [⟨.Name x px, iter, ifs, 0⟩] scope pos) spos) env) Q E s := by
  refine wpAny_Assign_ListComp_free p F hsw hclos hcell hkind hnames hx hy (by rw [hke]; rfl) (wpAny_mono h (fun xv s₁ h₁ => ?_) fun _ _ z => z) hs
  obtain ⟨a, its, rfl, σ, hl, hz, ht, he, hq⟩ := h₁
  subst hL
  obtain ⟨m, hn, hv⟩ := σ.nsm
  have hne : a ≠ s₁.heap.objs.size := by obtain ⟨o, ho, _⟩ := hl; exact Nat.ne_of_lt (Heap.lt_size ho)
  refine wpAny_pyIter_list hl ⟨s₁.heap.objs.size, _, _, _, _, _, m, rfl, Walks.list (w := w) (prog := prog) ρ.hh s₁.heap.objs.size a hne its.toArray, by rw [List.size_toArray]; exact hz, ?_, ?_, ?_, ?_, ?_, ?_⟩
  · exact ⟨⟨_, Heap.get?_push_size _ rfl, rfl, rfl⟩, hl.at fun o e => Heap.get?_push_of_some _ e⟩
  · intro b hb
    obtain ⟨o, ho, _⟩ := hl
    rw [Heap.size_push]
    rcases List.mem_cons.mp hb with z | z
    · rw [z]; exact Nat.lt_succ_self _
    · rw [List.mem_singleton.mp z]; exact Nat.lt_succ_of_lt (Heap.lt_size ho)
  · intro q
    exact absurd σ.lt (by rw [List.mem_singleton.mp q]; exact Nat.lt_irrefl _)
  · exact hn.keeps fun _ _ e => Heap.get?_push_of_some _ e
  · have sub : ∀ {s₃ : Shared}, (∀ b o, b ∉ [s₁.heap.objs.size] → (s₁.heap.push { cls := .type "list_iterator", data := .fields #[.ref a, .int 0 0] }).get? b = some o → s₃.heap.get? b = some o) → Sub s₁.heap s₃.heap := fun hk b o e => hk b o (fun q => by
      rw [List.mem_singleton.mp q] at e; exact absurd (Heap.lt_size e) (Nat.lt_irrefl _)) (Heap.get?_push_of_some _ e)
    have above : ∀ {C : Addr}, (s₁.heap.push { cls := .type "list_iterator", data := .fields #[.ref a, .int 0 0] }).objs.size ≤ C → s₁.heap.get? C = none := fun {C} hc => by
      cases q : s₁.heap.get? C with
      | none => rfl
      | some z => rw [Heap.size_push] at hc; exact absurd (Nat.lt_trans (Heap.lt_size q) hc) (Nat.lt_irrefl _)
    have mem : ∀ {i : Nat} {v : Value}, its.toArray[i]? = some v → v ∈ its := fun {i v} hv => List.mem_of_getElem? (by simpa using hv)
    exact ⟨fun C i v s₃ m₃ E' hc hP hn hm hk _ => ht C v s₃ m₃ E' (above hc) (mem hP) hn hm (sub hk), fun C i v s₃ m₃ E' hc hP hp hn hm hk _ => he C v s₃ m₃ E' (above hc) (mem hP) hp hn hm (sub hk)⟩
  · intro D h' tk ys vs hD _ hp hlen hP hF hn' hk
    have e : vs = its := eq_of_get (by simpa using hlen) hP
    subst e
    obtain ⟨c, hc⟩ := hp
    have hD1 : s₁.heap.get? D = none := by
      cases q : s₁.heap.get? D with
      | none => rfl
      | some z => exact absurd (hD.symm.trans (Heap.get?_push_of_some _ q)) (by simp)
    have kk : ∀ b o, b ≠ env.locals → s₁.heap.get? b = some o → h'.get? b = some o := fun b o hb e => hk b o hb (fun q => by
      rw [List.mem_singleton.mp q] at e; exact absurd (Heap.lt_size e) (Nat.lt_irrefl _)) (Heap.get?_push_of_some _ e)
    refine hq D _ ys.toList c hF ?_
    rw [Array.toArray_toList]
    refine ⟨ns_of hn' fun p hp => ?_, fun b o e => kk b o (fun q => ?_) (σ.keep b o e), σ.gL, fun p hp => ?_, ?_, σ.t, σ.os, σ.gs⟩
    · cases hp with
      | head => simp
      | tail _ hp =>
        have z := hr.spec p hp
        simp only [if_neg z.2]
        exact hv p z.1
    · rw [q, σ.gL] at e; cases e
    · cases hp with
      | head =>
        refine ⟨hc, fun e => ?_, ?_⟩
        · obtain ⟨oL, hoL, _⟩ := σ.ns
          rw [← show D = env.locals from e, hD1] at hoL; cases hoL
        · cases q : g.get? D with
          | none => rfl
          | some z => exact absurd (hD1.symm.trans (σ.keep _ _ q)) (by simp)
      | tail _ z =>
        have y := σ.nw p z
        exact ⟨kk _ _ y.2.1 y.1, y.2⟩
    · rw [List.map_cons, List.nodup_cons]
      refine ⟨fun hm => ?_, σ.nd⟩
      obtain ⟨p, hp, e⟩ := List.mem_map.mp hm
      have y := (σ.nw p hp).1
      rw [show p.1 = D from e, hD1] at y; cases y
end
end Mine
end
section
open PySem PySem.W PyProof.Rows PySem.Calls
set_option maxRecDepth 100000
namespace Mine
section
variable {prog : Program} {w : World} {A : Around} {E : Value → Shared → Prop}
  {K : Frag} {mg mb : Str → Option Value} {os : OsState} {gs : Array GenState} {g : Heap} {L : Addr} {l l' : List (Str × Value)} {news news' : List (Addr × Obj)} {s : Shared} {env : Env}
/-- a cell's name is set -/
theorem r_stU {x : Str} {v : Value} {v₀ : Option Value} {c : Addr} {o : Obj} {nw : Obj → List (Addr × Obj)} {Q : Unit → Shared → Prop} (σ : Sx K mg mb os gs g L l news s) (hu : ∀ o', Up c o o' news (nw o')) (hd : o.data = .cell v₀)
    (h : ∀ s' o', o'.data = .cell (some v) → Sx K mg mb os gs g L l (nw o') s' → Q () s')
    (hc : env.cells.lookup x = some c := by rfl) (hk : env.scope.kind = .function := by rfl) (hx : env.kindOf x = some .cell := by rfl) :
    wpAny (model prog w) A (storeName env x v) Q E s := by
  refine wpAny_storeName_cell hk hx hc ⟨o, σ.get (hu o).mem, hd⟩ fun h' hv hs => ?_
  obtain ⟨o', ho', hd'⟩ := hv
  exact h _ o' hd' (σ.up (tk := s.toks) (hu o') hs ho')
theorem test1 {c : Expr} {Q : Bool → Shared → Prop} (h : wpAny (model prog w) A (isTrue c env (eval c env)) Q E s) :
    wpAny (model prog w) A (forIn [c] true fun c r => if r = true then do let ok ← isTrue c env (eval c env); pure (ForInStep.yield ok) else pure (ForInStep.yield r)) Q E s := by
  rw [List.forIn_cons]
  refine wpAny_bind ?_
  rw [if_pos rfl]
  refine wpAny_bind (wpAny_mono h (fun ok s' hq => wpAny_pure ?_) fun _ _ z => z)
  dsimp only
  rw [List.forIn_nil]
  exact wpAny_pure hq
theorem paired_eq : ∀ {vs ys : List Value}, Paired (fun v y => y = v) vs ys → ys = vs
  | _, _, .nil => rfl
  | _, _, .cons h r => by rw [h, paired_eq r]
def gtV (c : Int) : Value → Bool
  | .int y _ => decide (y > c)
  | _ => false
theorem gt_len (c : Int) : ∀ {vs : List Value} {ns : List Int}, IntsAre vs ns → (vs.filter (gtV c)).length = (ns.filter fun y => decide (y > c)).length
  | _, _, .nil => rfl
  | _, _, .cons n t h => by
    have ih := gt_len c h
    rw [List.filter_cons, List.filter_cons]
    show (if decide (n > c) = true then _ else _ : List Value).length = _
    split
    · rw [List.length_cons, List.length_cons, ih]
    · exact ih
theorem ints_mem : ∀ {vs : List Value} {ns : List Int}, IntsAre vs ns → ∀ {v : Value}, v ∈ vs → ∃ n u, v = .int n u ∧ n ∈ ns
  | _, _, .cons n t h, _, .head _ => ⟨n, t, rfl, .head _⟩
  | _, _, .cons n t h, _, .tail _ hv => let ⟨x, u, e, m⟩ := ints_mem h hv; ⟨x, u, e, .tail _ m⟩
theorem ints_one (n : Int) (t : Tok) : IntsAre [.int n t] [n] := .cons n t .nil
theorem ints_app : ∀ {vs ws : List Value} {ns ms : List Int}, IntsAre vs ns → IntsAre ws ms → IntsAre (vs ++ ws) (ns ++ ms)
  | _, _, _, _, .nil, k => k
  | _, _, _, _, .cons y t h, k => .cons y t (ints_app h k)
theorem ints_len : ∀ {vs : List Value} {xs : List Int}, IntsAre vs xs → vs.length = xs.length
  | _, _, .nil => rfl
  | _, _, .cons _ _ h => congrArg (· + 1) (ints_len h)
theorem ints_get : ∀ {vs : List Value} {ns : List Int}, IntsAre vs ns → ∀ {i : Nat}, i < ns.length → ∃ t, vs[i]? = some (.int (ns.getD i 0) t)
  | _, _, .cons n t _, 0, _ => ⟨t, rfl⟩
  | _, _, .cons n t h, i + 1, hi => by
    obtain ⟨u, e⟩ := ints_get h (i := i) (by simpa using hi)
    exact ⟨u, by simpa using e⟩
theorem ints_take : ∀ {vs : List Value} {ns : List Int}, IntsAre vs ns → ∀ k, IntsAre (vs.take k) (ns.take k)
  | _, _, .nil, k => by simp; exact .nil
  | _, _, .cons _ _ _, 0 => .nil
  | _, _, .cons n t h, k + 1 => .cons n t (ints_take h k)
theorem lens_of {k : Int} : ∀ {vs ys : List Value} {xs : List Str}, StrsAre vs xs → Paired (fun v y => ∃ (x : Str) (u1 u2 : Tok), v = .str x u1 ∧ y = .int ((x.length : Int) - k) u2) vs ys → IntsAre ys (xs.map fun x => (x.length : Int) - k)
  | _, _, _, .nil, .nil => .nil
  | _, _, _, .cons y t h, .cons a r => by
    obtain ⟨x, u1, u2, e1, rfl⟩ := a
    cases e1
    exact .cons _ _ (lens_of h r)
end
end Mine
end
section
open PySem PySem.W PyProof.Rows PySem.Calls
set_option maxRecDepth 100000
namespace Mine
section
variable {prog : Program} {w : World} {A : Around} {E : Value → Shared → Prop}
  {K : Frag} {mg mb : Str → Option Value} {os : OsState} {gs : Array GenState} {g : Heap} {L : Addr} {l l' : List (Str × Value)} {news news' : List (Addr × Obj)} {s : Shared} {env : Env}
abbrev IsD (prog : Program) (w : World) (o : Obj) (kvs : List (Int × Value)) : Prop := o.IsDictOf (PySem.intKind prog w) kvs
theorem dOf {d : Addr} {o : Obj} {kvs : List (Int × Value)} (σ : Sx K mg mb os gs g L l news s) (hm : (d, o) ∈ news) (hd : IsD prog w o kvs) : s.heap.DictOf (PySem.intKind prog w) d kvs := Heap.dictOf_iff.mpr ⟨o, σ.get hm, hd⟩
theorem isInt_self (k : Int) (t : Tok) : (PySem.intKind prog w).is k (.int k t) = true := by simp [PySem.intKind, Value.isInt]
/-- {k: v} -/
theorem r_dict1 {ke ve : Expr} {pos : Pos} {Q : Value → Shared → Prop} (σ : Sx K mg mb os gs g L l news s)
    (h : ∀ D s, (∀ b o, g.get? b = some o → b < D) → Sx K mg mb os gs g L l ((D, { cls := .type "dict", data := .dict #[] }) :: news) s → wpAny (model prog w) A (eval ke env) (fun kv s₁ => wpAny (model prog w) A (eval ve env) (fun vv s₂ => ∃ k t, kv = .int k t ∧ Sx K mg mb os gs g L l ((D, { cls := .type "dict", data := .dict #[] }) :: news) s₂ ∧
      ∀ o s', IsD prog w o [(k, vv)] → Sx K mg mb os gs g L l ((D, o) :: news) s' → Q (.ref D) s') E s₁) E s)
    (hshape : (evalEachOpt [some ke] env).zip ((evalEach [ve] env).map fun v => do let x ← v; standAt pos; pure x) = [(some (eval ke env), do let x ← eval ve env; standAt pos; pure x)] := by rfl) :
    wpAny (model prog w) A (eval (.Dict [some ke] [ve] pos) env) Q E s := by
  refine wpAny_Dict_pairs (knd := PySem.intKind prog w) (pairs := [(eval ke env, do let x ← eval ve env; standAt pos; pure x)]) hshape (by simp) (by simp) ?_
  refine evalPairs_cons (wpAny_mono (h _ _ (fun b o e => σ.glt e) (σ.push _)) (fun kv s₁ h₁ => wpAny_bind (wpAny_mono h₁ (fun vv s₂ h₂ => wpAny_bind (wpAny_standAt (wpAny_pure (evalPairs_nil ?_)))) fun _ _ z => z)) fun _ _ z => z)
  obtain ⟨k, t, rfl, τ, hq⟩ := h₂
  refine ⟨[(k, vv)], ⟨isInt_self k t, rfl, trivial⟩, dOf τ (.head _) ⟨#[], 0, ⟨rfl, rfl, rfl⟩, rfl, fun _ he => by simp at he, .nil, by simp⟩, fun h' hd hs => ?_⟩
  obtain ⟨o, ho, hdo⟩ := Heap.dictOf_iff.mp hd
  exact hq o _ hdo (τ.up (tk := s₂.toks + 1) .head hs ho)
theorem r_notIn {d : Addr} {o : Obj} {kvs : List (Int × Value)} {k : Int} {t : Tok} {Q : Value → Shared → Prop} (σ : Sx K mg mb os gs g L l news s) (hm : (d, o) ∈ news) (hd : IsD prog w o kvs) (hs : (d == sysModules) = false)
    (h : ∀ s', Sx K mg mb os gs g L l news s' → Q (.bool (!(valueAt kvs k).isSome)) s') : wpAny (model prog w) A (compareOp .NotIn (.int k t) (.ref d)) Q E s :=
  wpAny_notIn_of (isInt_self k t) hs (dOf σ hm hd).mapOf (h _ (σ.tok _))
theorem r_dget {d : Addr} {o : Obj} {kvs : List (Int × Value)} {k : Int} {t : Tok} {v : Value} {Q : Value → Shared → Prop} (σ : Sx K mg mb os gs g L l news s) (hm : (d, o) ∈ news) (hd : IsD prog w o kvs) (hv : valueAt kvs k = some v)
    (h : ∀ s', Sx K mg mb os gs g L l news s' → Q v s') : wpAny (model prog w) A (getItem (.ref d) (.int k t)) Q E s :=
  wpAny_getItem_of (isInt_self k t) (dOf σ hm hd).mapOf hv (h _ (σ.tok _))
theorem r_ditem {value slice : Expr} {d : Addr} {o : Obj} {kvs : List (Int × Value)} {k : Int} {t : Tok} {v : Value} {Q : Value → Shared → Prop} (σ : Sx K mg mb os gs g L l news s) (hm : (d, o) ∈ news) (hd : IsD prog w o kvs) (hv : valueAt kvs k = some v)
    (h : ∀ s', Sx K mg mb os gs g L l news s' → Q v s')
    (hs : subscripted slice false (.ref d) (.int k t) = operate [.ref d, .int k t] (getItem (.ref d) (.int k t)) := by with_unfolding_all rfl) :
    wpAny (model prog w) A (subscriptTail value slice (.ref d) (.int k t)) Q E s :=
  tail_any (dOf σ hm hd).typeIs slot_dict_getitem.lookup (r_dget σ hm hd hv h) hs
theorem r_dset {d : Addr} {o : Obj} {kvs : List (Int × Value)} {k : Int} {t : Tok} {v : Value} {nw : Obj → List (Addr × Obj)} {Q : Unit → Shared → Prop} (σ : Sx K mg mb os gs g L l news s) (hu : ∀ o', Up d o o' news (nw o')) (hd : IsD prog w o kvs) (hz : kvs.length ≤ sizeLine)
    (h : ∀ o' s', IsD prog w o' (stored kvs k v) → Sx K mg mb os gs g L l (nw o') s' → Q () s') : wpAny (model prog w) A (setItem (.ref d) (.int k t) v) Q E s := by
  refine wpAny_setItem_pairs (isInt_self k t) (dOf σ (hu o).mem hd) (fun h' hd' hs => ?_) hz
  obtain ⟨o', ho', hdo⟩ := Heap.dictOf_iff.mp hd'
  exact h o' _ hdo (σ.up (tk := s.toks + 1) (hu o') hs ho')

theorem collectD {d : Addr} {kvs : List (Int × Value)} {Q : List Value → Shared → Prop} (hh : A.handled = none) (hd : s.heap.DictOf (PySem.intKind prog w) d kvs) (hs : (d == sysModules) = false) (hz : kvs.length ≤ sizeLine)
    (h : ∀ h' tk vs, Sub s.heap h' → IntsAre vs (kvs.map (·.1)) → Q vs { s with heap := h', toks := tk }) : wpAny (model prog w) A (collect (.ref d)) Q E s := by
  obtain ⟨ep, hat⟩ := hd.dictAt
  unfold collect
  refine wpAny_bind (wpAny_runValue (codeAny_builtin entry_proto_collect' ?_))
  show wpAny _ _ (do again (.builtin "list.__iadd__" ⟨[← newList [], .ref d], []⟩)) _ _ s
  refine wpAny_bind (wpAny_newList (wpAny_pure ⟨plainId_quiet PySem.F.plain_list_iadd _, codeAny_builtin entry_list_iadd' ?_⟩))
  rw [Around.under_plainId PySem.F.plain_list_iadd _]
  have hlt : d < s.heap.objs.size := hat.lt_size
  show wpAny _ _ (Builtin.List.listExtendWith (.ref s.heap.objs.size) (.ref d) (.ref s.heap.objs.size)) _ _ _
  refine kdl_extend (R := fun r s' => match r with
    | .ok (.ret v) => wpAny (model prog w) A (match v with
      | .ref a => do
        let o ← load a
        match o.data with
        | .seq xs _ => pure xs.toList
        | _ => unsupported "internal:collect"
      | _ => unsupported "internal:collect") Q E s'
    | .ok _ => False
    | .error e => E e s') (A := A) (s := { s with heap := s.heap.push { cls := .type "list", data := .seq #[] } }) (kdl_dict (knd := PySem.intKind prog w) (kvs := kvs) (ep := ep) hs) hh (hat.push _) s.heap.objs.size (Nat.ne_of_gt hlt) (Nat.ne_of_gt hlt) _ 0 (Heap.get?_push_size _ rfl) (fun h' tk acc' c' hk hS hi => ?_) hz
  refine wpAny_bind (wpAny_load hS ?_)
  refine wpAny_pure (h h' tk acc'.toList (fun b o e => hk b o (Nat.ne_of_lt (Heap.lt_size e)) (Heap.get?_push_of_some _ e)) ?_)
  have key : ∀ (vs : List Value) (kvs : List (Int × Value)), vs.length = kvs.length → (∀ (j : Nat) v, vs[j]? = some v → ∃ k x, kvs[j]? = some (k, x) ∧ (PySem.intKind prog w).is k v = true) → IntsAre vs (kvs.map (·.1)) := by
    intro vs
    induction vs with
    | nil => intro kvs hl _; cases kvs with | nil => exact .nil | cons _ _ => simp at hl
    | cons v vs ih =>
      intro kvs hl hv
      cases kvs with
      | nil => simp at hl
      | cons kv kvs =>
        obtain ⟨k, x, e1, e2⟩ := hv 0 v rfl
        simp at e1
        subst e1
        obtain ⟨t, rfl⟩ := Value.isInt_shape e2
        exact .cons k t (ih kvs (by simpa using hl) fun j v hj => by
          obtain ⟨k, x, e1, e2⟩ := hv (j + 1) v (by simpa using hj)
          exact ⟨k, x, by simpa using e1, e2⟩)
  exact key _ _ (by rw [Array.length_toList]; exact hi.1) fun j v e => hi.2 j v (by rw [← Array.getElem?_toList]; exact e)
theorem r_sortedD {d : Addr} {o : Obj} {kvs : List (Int × Value)} {Q : Value → Shared → Prop} (σ : Sx K mg mb os gs g L l news s) (ρ : Room A 0) (hm : (d, o) ∈ news) (hd : IsD prog w o kvs) (hs : (d == sysModules) = false) (hz : kvs.length < 64)
    (h : ∀ D vs ns c s', IntsAre vs ns → ns.Perm (kvs.map (·.1)) → ns.Pairwise (· ≤ ·) → Sx K mg mb os gs g L l ((D, listOf (List.toArray vs) c) :: news) s' → Q (.ref D) s') :
    wpAny (model prog w) A (call (.builtin "sorted") [.ref d]) Q E s := by
  refine Calls.call_function_entry kind_sorted plain_sorted entry_sorted (args_sorted1 _) ?_
  unfold Builtin.«sorted»
  refine wpAny_bind (m := checkCount "sorted" 1 1 _) (wpAny_pure ?_)
  refine wpAny_bind (collectD (prog := prog) (w := w) ρ.hh (dOf σ hm hd) hs (by rw [sizeLine]; omega) fun h1 tk vs hk hi => ?_)
  have hvl : vs.length = kvs.length := by rw [ints_len hi, List.length_map]
  refine wpAny_bind (wpAny_newList ?_ (by rw [sizeLine]; omega))
  have hoL : (h1.push (seqObj "list" vs.toArray 0)).get? h1.objs.size = some (seqObj "list" vs.toArray 0) := Heap.get?_push_size _ rfl
  refine wpAny_bind (wpAny_holding (wpAny_call_entry slot_list_sort ⟨_, hoL, rfl⟩ entry_list_sort (list_sort_tree hoL hi (by omega) fun out ns' a1 a2 a3 => ⟨_, rfl, ?_⟩) (args_list_sort _)))
  refine wpAny_pure ⟨_, rfl, ?_⟩
  obtain ⟨e, he⟩ := sortedHeap_at (vs := vs) (out := out) hoL
  have hD : s.heap.get? h1.objs.size = none := by
    cases q : s.heap.get? h1.objs.size with
    | none => rfl
    | some z => exact absurd (Heap.lt_size (hk _ _ q)) (Nat.lt_irrefl _)
  have τ : Sx K mg mb os gs g L l ([] ++ news) s := σ
  obtain ⟨c, σ'⟩ := Sx.comp (own := []) (tk := tk) τ hD (h' := sortedHeap (h1.push (seqObj "list" vs.toArray 0)) h1.objs.size vs out) (ys := out) ⟨e, he⟩ (fun b o _ eb => by
    have hlt := Heap.lt_size (hk _ _ eb)
    rw [sortedHeap_old (Nat.ne_of_lt hlt) (by rw [size_push']; exact Nat.lt_succ_of_lt hlt)]
    exact Heap.get?_push_of_some _ (hk _ _ eb))
  refine h _ out.toList ns' c _ a1 a2 a3 ?_
  rw [Array.toArray_toList]
  exact σ'
end
end Mine
end
section
open PySem PySem.W PyProof.Rows PySem.Calls
set_option maxRecDepth 100000
namespace Mine
def dotS (n : Nat) : Str := ⟨(List.replicate n 46).toArray⟩
def rowsOf : Nat → List Bool → List (Nat × Nat)
  | _, [] => []
  | k, b :: r => if b then (1, k % 3) :: rowsOf (k + 1) r else (rowsOf (k + 1) r).map fun q => (q.1 + 1, 2)
def bitsOf (lo : Nat) : List Bool := [lo.testBit 6, lo.testBit 5, lo.testBit 4, lo.testBit 3, lo.testBit 2, lo.testBit 1, lo.testBit 0]
def finalR (lo : Nat) : List (Nat × Nat) := (rowsOf 0 (bitsOf lo)).map fun q => (q.1 + 1, 2)
def szs (lo : Nat) : List Int := (rowsOf 0 (bitsOf lo)).map fun q => (q.1 : Int) - 1
theorem rows_ok : ∀ (k : Nat) (bs : List Bool), (rowsOf k bs).length ≤ bs.length ∧ ∀ q ∈ rowsOf k bs, 1 ≤ q.1 ∧ q.1 ≤ bs.length
  | _, [] => ⟨Nat.le_refl _, fun _ h => by cases h⟩
  | k, b :: r => by
    have ih := rows_ok (k + 1) r
    unfold rowsOf
    split
    · refine ⟨by simp; exact ih.1, fun q hq => ?_⟩
      cases hq with
      | head => simp
      | tail _ h => have := ih.2 q h; simp; omega
    · refine ⟨by simp; omega, fun q hq => ?_⟩
      obtain ⟨z, hz, rfl⟩ := List.mem_map.mp hq
      have := ih.2 z hz
      simp; omega
theorem mail_len (B : Nat) : ∀ (r : List (Nat × Nat)), (∀ q ∈ r, q.1 ≤ B) → (mail r).length ≤ r.length * (B + 2)
  | [], _ => Nat.zero_le _
  | (n, k) :: r, h => by
    have ih := mail_len B r fun q hq => h q (.tail _ hq)
    have h1 : n ≤ B := h _ (.head _)
    have hs1 : (sepL k).length ≤ 2 := by unfold sepL; split <;> simp
    simp only [mail, List.length_append, List.length_replicate, List.length_cons]
    rw [Nat.add_mul]
    omega
theorem mail_small {r : List (Nat × Nat)} (h1 : r.length ≤ 7) (h2 : ∀ q ∈ r, q.1 ≤ 9) : (mailS r).length ≤ 77 := by
  have := mail_len 9 r h2
  show (mail r).toArray.size ≤ 77
  rw [List.size_toArray]
  have h3 : r.length * 11 ≤ 7 * 11 := Nat.mul_le_mul_right _ h1
  omega
theorem fin_split : ∀ lo, lo < 128 → Txt.split (mailS (finalR lo)) "\r\n" = ((finalR lo).map fun q => dotS q.1) ++ [dotS 0] := by
  have h0 : ∀ lo, lo < 16 → Txt.split (mailS (finalR (0 * 16 + lo))) "\r\n" = ((finalR (0 * 16 + lo)).map fun q => dotS q.1) ++ [dotS 0] := by decide +kernel
  have h1 : ∀ lo, lo < 16 → Txt.split (mailS (finalR (1 * 16 + lo))) "\r\n" = ((finalR (1 * 16 + lo)).map fun q => dotS q.1) ++ [dotS 0] := by decide +kernel
  have h2 : ∀ lo, lo < 16 → Txt.split (mailS (finalR (2 * 16 + lo))) "\r\n" = ((finalR (2 * 16 + lo)).map fun q => dotS q.1) ++ [dotS 0] := by decide +kernel
  have h3 : ∀ lo, lo < 16 → Txt.split (mailS (finalR (3 * 16 + lo))) "\r\n" = ((finalR (3 * 16 + lo)).map fun q => dotS q.1) ++ [dotS 0] := by decide +kernel
  have h4 : ∀ lo, lo < 16 → Txt.split (mailS (finalR (4 * 16 + lo))) "\r\n" = ((finalR (4 * 16 + lo)).map fun q => dotS q.1) ++ [dotS 0] := by decide +kernel
  have h5 : ∀ lo, lo < 16 → Txt.split (mailS (finalR (5 * 16 + lo))) "\r\n" = ((finalR (5 * 16 + lo)).map fun q => dotS q.1) ++ [dotS 0] := by decide +kernel
  have h6 : ∀ lo, lo < 16 → Txt.split (mailS (finalR (6 * 16 + lo))) "\r\n" = ((finalR (6 * 16 + lo)).map fun q => dotS q.1) ++ [dotS 0] := by decide +kernel
  have h7 : ∀ lo, lo < 16 → Txt.split (mailS (finalR (7 * 16 + lo))) "\r\n" = ((finalR (7 * 16 + lo)).map fun q => dotS q.1) ++ [dotS 0] := by decide +kernel
  intro lo hlo
  have e : lo = lo / 16 * 16 + lo % 16 := by omega
  have hq : lo / 16 = 0 ∨ lo / 16 = 1 ∨ lo / 16 = 2 ∨ lo / 16 = 3 ∨ lo / 16 = 4 ∨ lo / 16 = 5 ∨ lo / 16 = 6 ∨ lo / 16 = 7 := by omega
  have hm : lo % 16 < 16 := Nat.mod_lt _ (by decide)
  rcases hq with z | z | z | z | z | z | z | z <;> (rw [z] at e; rw [e])
  · exact h0 _ hm
  · exact h1 _ hm
  · exact h2 _ hm
  · exact h3 _ hm
  · exact h4 _ hm
  · exact h5 _ hm
  · exact h6 _ hm
  · exact h7 _ hm
/-- one hook -/
def hook (z : List Int) (i : Nat) (c : Nat) : Int := z.getD i 0 - c + ((z.take i).filter fun y => decide (y > (c : Int))).length
def hookRow (z : List Int) (i : Nat) (n : Nat) : List Int := (List.range n).map (hook z i)
def hks (z : List Int) (i : Nat) : List Int := (List.range i).flatMap fun i => hookRow z i (z.getD i 0).toNat
theorem hookRow_succ (z : List Int) (i n : Nat) : hookRow z i (n + 1) = hookRow z i n ++ [hook z i n] := by simp [hookRow, List.range_succ]
theorem hks_succ (z : List Int) (i : Nat) : hks z (i + 1) = hks z i ++ hookRow z i (z.getD i 0).toNat := by simp [hks, List.range_succ]
end Mine
end
section
open PySem PySem.W PyProof.Rows PySem.Calls
set_option maxRecDepth 100000
namespace Mine
section
variable {α : Type} (d : α) (lt : α → α → Bool)
def gsdL (x : α) : Nat → List α → Nat → List α × Nat
  | 0, vs, p => (vs, p)
  | f + 1, vs, p => if p = 0 then (vs, p) else if lt x (vs.getD ((p - 1) / 2) d) then gsdL x f (vs.set p (vs.getD ((p - 1) / 2) d)) ((p - 1) / 2) else (vs, p)
def gsdn (vs : List α) (p : Nat) : List α := (gsdL d lt (vs.getD p d) p vs p).1.set (gsdL d lt (vs.getD p d) p vs p).2 (vs.getD p d)
def gsuL : Nat → List α → Nat → List α × Nat
  | 0, vs, p => (vs, p)
  | f + 1, vs, p => if 2 * p + 1 < vs.length then
      (if 2 * p + 2 < vs.length ∧ lt (vs.getD (2 * p + 1) d) (vs.getD (2 * p + 2) d) = false then gsuL f (vs.set p (vs.getD (2 * p + 2) d)) (2 * p + 2) else gsuL f (vs.set p (vs.getD (2 * p + 1) d)) (2 * p + 1))
    else (vs, p)
def gsup (vs : List α) : List α := gsdn d lt ((gsuL d lt vs.length vs 0).1.set (gsuL d lt vs.length vs 0).2 (vs.getD 0 d)) (gsuL d lt vs.length vs 0).2
def gpush (vs : List α) (v : α) : List α := gsdn d lt (vs ++ [v]) vs.length
def gpop : List α → Option (α × List α)
  | [] => none
  | x :: r => some (match r.reverse with
    | [] => (x, [])
    | y :: q => (x, gsup d lt (y :: q.reverse)))
variable {d} {lt} {f : Value → α}
theorem getD_f (hf : f .none = d) (vs : List Value) (p : Nat) : (vs.map f).getD p d = f (vs.getD p .none) := by
  rw [List.getD_eq_getElem?_getD, List.getD_eq_getElem?_getD, List.getElem?_map]
  cases vs[p]? with
  | none => exact hf.symm
  | some v => rfl
theorem sdL_map (hf : f .none = d) (x : Value) : ∀ (k : Nat) (vs : List Value) (p : Nat), ((sdL (fun a b => lt (f a) (f b)) x k vs p).1.map f, (sdL (fun a b => lt (f a) (f b)) x k vs p).2) = gsdL d lt (f x) k (vs.map f) p
  | 0, vs, p => rfl
  | k + 1, vs, p => by
    unfold sdL gsdL
    split
    · rfl
    · rw [getD_f hf]
      split
      · rw [← List.map_set]
        exact sdL_map hf x k _ _
      · rfl
theorem sdn_map (hf : f .none = d) (vs : List Value) (p : Nat) : (sdn (fun a b => lt (f a) (f b)) vs p).map f = gsdn d lt (vs.map f) p := by
  have h := sdL_map (lt := lt) hf (vs.getD p .none) p vs p
  unfold sdn gsdn
  rw [getD_f hf, ← h]
  simp [List.map_set]
theorem suL_map (hf : f .none = d) : ∀ (k : Nat) (vs : List Value) (p : Nat), ((suL (fun a b => lt (f a) (f b)) k vs p).1.map f, (suL (fun a b => lt (f a) (f b)) k vs p).2) = gsuL d lt k (vs.map f) p
  | 0, vs, p => rfl
  | k + 1, vs, p => by
    unfold suL gsuL
    rw [List.length_map, getD_f hf, getD_f hf]
    split
    · split
      · rw [← List.map_set]
        exact suL_map hf k _ _
      · rw [← List.map_set]
        exact suL_map hf k _ _
    · rfl
theorem sup_map (hf : f .none = d) (vs : List Value) : (sup (fun a b => lt (f a) (f b)) vs).map f = gsup d lt (vs.map f) := by
  have h := suL_map (lt := lt) hf vs.length vs 0
  unfold sup gsup
  rw [List.length_map, ← h, sdn_map hf, getD_f hf, List.map_set]
theorem hpush_map (hf : f .none = d) (vs : List Value) (v : Value) : (hpush (fun a b => lt (f a) (f b)) vs v).map f = gpush d lt (vs.map f) (f v) := by
  unfold hpush gpush
  rw [sdn_map hf, List.map_append, List.length_map]; rfl
theorem hpop_map (hf : f .none = d) (p : List Value) (y : Value) : gpop d lt ((p ++ [y]).map f) = some (f (hpop (fun a b => lt (f a) (f b)) p y).1, (hpop (fun a b => lt (f a) (f b)) p y).2.map f) := by
  cases p with
  | nil => rfl
  | cons x r =>
    show gpop d lt (f x :: ((r ++ [y]).map f)) = _
    unfold gpop hpop
    simp only [List.map_append, List.map_cons, List.map_nil, List.reverse_append, List.reverse_cons, List.reverse_nil, List.nil_append, List.singleton_append, List.reverse_reverse]
    rw [sup_map hf]
    rfl
end
def stepsL (lo p : Nat) : Nat → List Nat
  | 0 => []
  | i + 1 => stepsL lo p i ++ (if (bitsOf lo).getD (p + i) false && !(bitsOf lo).getD i false then [lo + 2 ^ (6 - i) - 2 ^ (6 - (p + i))] else [])
def ltN (a b : Nat) : Bool := decide (a < b)
def getN (ws : List (Nat × Nat)) (k : Nat) : Option Nat := (ws.find? fun w => w.1 = k).map (·.2)
def stN (ws : List (Nat × Nat)) (k v : Nat) : List (Nat × Nat) := if ws.any (fun w => w.1 = k) then ws.map (fun w => if w.1 = k then (w.1, v) else w) else ws ++ [(k, v)]
def inSt (st : List Nat × List (Nat × Nat)) (m : Nat) : List Nat × List (Nat × Nat) := if (getN st.2 m).isSome then st else (gpush 0 ltN st.1 m, stN st.2 m 0)
def upd (least moved : Nat) (q : List Nat × List (Nat × Nat)) : Option (List Nat × List (Nat × Nat)) := match getN q.2 moved with
  | some a => match getN q.2 least with
    | some b => if moved < 128 then some (q.1, stN q.2 moved (a + b)) else none
    | none => none
  | none => none
def runIn (least : Nat) (st : List Nat × List (Nat × Nat)) (moved : Nat) : Option (List Nat × List (Nat × Nat)) := upd least moved (inSt st moved)
def runAll (least : Nat) : List Nat → List Nat × List (Nat × Nat) → Option (List Nat × List (Nat × Nat))
  | [], st => some st
  | m :: r, st => match runIn least st m with
    | some st' => runAll least r st'
    | none => none
def run (p : Nat) : Nat → List Nat × List Nat × List (Nat × Nat) → Option (List Nat × List (Nat × Nat))
  | 0, (h, told, ws) => match h with
    | [] => some (told, ws)
    | _ :: _ => none
  | k + 1, (h, told, ws) => match gpop 0 ltN h with
    | none => some (told, ws)
    | some (least, h') => match runAll least (stepsL least p (7 - p)) (h', ws) with
      | some (h2, w2) => run p k (h2, told ++ [least], w2)
      | none => none
inductive WaysAre (H : Int) : List (Int × Value) → List (Nat × Nat) → Prop
  | nil : WaysAre H [] []
  | cons (k v : Nat) (t : Tok) {kvs ws} : WaysAre H kvs ws → WaysAre H ((H + k, .int v t) :: kvs) ((k, v) :: ws)
theorem ways_len {H : Int} : ∀ {kvs : List (Int × Value)} {ws : List (Nat × Nat)}, WaysAre H kvs ws → kvs.length = ws.length
  | _, _, .nil => rfl
  | _, _, .cons _ _ _ h => congrArg (· + 1) (ways_len h)
theorem ways_app {H : Int} : ∀ {kvs kvs' : List (Int × Value)} {ws ws' : List (Nat × Nat)}, WaysAre H kvs ws → WaysAre H kvs' ws' → WaysAre H (kvs ++ kvs') (ws ++ ws')
  | _, _, _, _, .nil, k => k
  | _, _, _, _, .cons a b t h, k => .cons a b t (ways_app h k)
theorem ways_keys {H : Int} : ∀ {kvs : List (Int × Value)} {ws : List (Nat × Nat)}, WaysAre H kvs ws → kvs.map (·.1) = (ws.map (·.1)).map fun (k : Nat) => H + (k : Int)
  | _, _, .nil => rfl
  | _, _, .cons _ _ _ h => by simp [ways_keys h]
theorem ways_get {H : Int} (k : Nat) : ∀ {kvs : List (Int × Value)} {ws : List (Nat × Nat)}, WaysAre H kvs ws → (∀ v, getN ws k = some v → ∃ t, valueAt kvs (H + k) = some (.int v t)) ∧ (getN ws k = none → valueAt kvs (H + k) = none)
  | _, _, .nil => ⟨fun _ h => by simp [getN] at h, fun _ => rfl⟩
  | _, _, .cons a b t h => by
    have ih := ways_get k h
    unfold getN valueAt at ih ⊢
    by_cases e : a = k
    · subst e
      simp
    · have e' : ¬ (H + (a : Int) = H + (k : Int)) := by omega
      simp only [List.find?_cons, e, decide_false, e']
      exact ih
theorem ways_any {H : Int} (k : Nat) : ∀ {kvs : List (Int × Value)} {ws : List (Nat × Nat)}, WaysAre H kvs ws → (kvs.any fun kv => kv.1 = H + k) = ws.any fun w => w.1 = k
  | _, _, .nil => rfl
  | _, _, .cons a b t h => by
    have ih := ways_any k h
    rw [List.any_cons, List.any_cons, ih]
    congr 1
    by_cases e : a = k
    · subst e; simp
    · have e' : ¬ (H + (a : Int) = H + (k : Int)) := by omega
      simp [e, e']
theorem ways_map {H : Int} (k v : Nat) (t : Tok) : ∀ {kvs : List (Int × Value)} {ws : List (Nat × Nat)}, WaysAre H kvs ws → WaysAre H (kvs.map fun kv => if kv.1 = H + k then (kv.1, .int v t) else kv) (ws.map fun w => if w.1 = k then (w.1, v) else w)
  | _, _, .nil => .nil
  | _, _, .cons a b u h => by
    have ih := ways_map k v t h
    rw [List.map_cons, List.map_cons]
    by_cases e : a = k
    · subst e
      simp only [if_true]
      exact .cons _ _ _ ih
    · have e' : ¬ (H + (a : Int) = H + (k : Int)) := by omega
      simp only [e, e', if_false]
      exact .cons _ _ _ ih
theorem ways_st {H : Int} {k v : Nat} {t : Tok} {kvs : List (Int × Value)} {ws : List (Nat × Nat)} (h : WaysAre H kvs ws) : WaysAre H (stored kvs (H + k) (.int v t)) (stN ws k v) := by
  unfold stored stN
  rw [ways_any k h]
  split
  · exact ways_map k v t h
  · exact ways_app h (.cons _ _ _ .nil)
end Mine
end
section
open PySem PySem.W PyProof.Rows PySem.Calls
set_option maxRecDepth 100000
namespace Mine
section
variable {prog : Program} {w : World} {A : Around} {E : Value → Shared → Prop}
  {K : Frag} {mg mb : Str → Option Value} {os : OsState} {gs : Array GenState} {g : Heap} {L : Addr} {l l' : List (Str × Value)} {news news' : List (Addr × Obj)} {s : Shared} {env : Env}
/-- back to a smaller ghost -/
theorem Sx.thaw {g' : Heap} (σ : Sx K mg mb os gs g' L l news s) (h : Sub g g') (t : Tp K mg mb g) : Sx K mg mb os gs g L l news s := by
  have none : ∀ {b : Addr}, g'.get? b = none → g.get? b = none := fun {b} e => by
    cases q : g.get? b with
    | none => rfl
    | some z => exact absurd (e.symm.trans (h _ _ q)) (by simp)
  exact ⟨σ.ns, h.trans σ.keep, none σ.gL, fun p hp => ⟨(σ.nw p hp).1, (σ.nw p hp).2.1, none (σ.nw p hp).2.2⟩, σ.nd, t, σ.os, σ.gs⟩
/-- for x in a list that its expression makes -/
theorem r_forX {x : Str} {px pos : Pos} {body orelse : List Stmt} {iter : Expr} {Q : Flow → Shared → Prop} (ρ : Room A 0) (α : Type)
    (he : wpAny (model prog w) A (eval iter env) (fun xv s₁ => ∃ (g : Heap) (a : Addr) (its : List Value) (C : Nat → α → Prop) (gh : α → Heap) (loc : α → List (Str × Value)) (led : α → List (Addr × Obj)) (x₀ : α),
      xv = .ref a ∧ C 0 x₀ ∧ (∀ i x, C i x → Sub g (gh x)) ∧ g.IsList a its.toArray ∧ Sx K mg mb os gs (gh x₀) L (loc x₀) (led x₀) s₁ ∧
      (∀ i x' own v s₁, i < its.length → C i x' → its[i]? = some v → Sx K mg mb os gs (gh x') L (loc x') (own ++ led x') s₁ →
        wpAny (model prog w) A (storeName env x v) (fun _ s₂ => wpAny (model prog w) A (execs body env) (fun f s₃ => match f with
          | .next | .cont => ∃ x'', C (i + 1) x'' ∧ Sx K mg mb os gs (gh x'') L (loc x'') (own ++ led x'') s₃
          | .brk => Q .next s₃
          | .ret v => Q (.ret v) s₃) (fun _ _ => False) s₂) (fun _ _ => False) s₁) ∧
      (∀ x s', C its.length x → Sx K mg mb os gs (gh x) L (loc x) (led x) s' → wpAny (model prog w) A (execs orelse env) Q (fun _ _ => False) s')) (fun _ _ => False) s)
    (hs : ∀ x, foldedSetIterable iter env x = pure x := by intro _; rfl) :
    wpAny (model prog w) A (exec (.For (.Name x px) iter body orelse pos) env) Q E s := by
  refine wpAny_For (wpAny_mono he (fun xv s₁ h₁ => ?_) fun _ _ z => z.elim) hs
  obtain ⟨g, a, its, C, gh, loc, led, x₀, rfl, h0, hg, hl, σ, turn, done⟩ := h₁
  have hl1 : s₁.heap.IsList a its.toArray := hl.at fun o e => σ.keep _ _ (hg _ _ h0 _ _ e)
  obtain ⟨o₀, ho₀, hc₀⟩ := id hl
  have hne : a ≠ s₁.heap.objs.size := by obtain ⟨o, ho, _⟩ := hl1; exact Nat.ne_of_lt (Heap.lt_size ho)
  refine wpAny_pyIter_list hl1 ?_
  have W := Walks.list (w := w) (prog := prog) ρ.hh s₁.heap.objs.size a hne its.toArray
  rw [List.size_toArray] at W
  refine r_forL (g := g) (turns_name W) (fun i h st b hb => ?_) C gh loc led x₀ [_] h0 rfl (σ.push _) ?_ (fun b hb => ?_) hg (fun i x' own v s₂ hi hC hP _ τ => ?_) done
  · rw [List.mem_singleton.mp hb]; obtain ⟨o, ho, _⟩ := st.1; exact ⟨o, ho⟩
  · exact ⟨⟨_, Heap.get?_push_size _ rfl, rfl, rfl⟩, hl1.at fun o e => Heap.get?_push_of_some _ e⟩
  · rcases List.mem_cons.mp hb with z | z
    · exact .inl (by rw [z]; exact .head _)
    · rw [List.mem_singleton.mp z]; exact .inr ⟨o₀, ho₀⟩
  · exact wpAny_assign_Name (turn i x' own v s₂ hi hC (by simpa using hP) τ)
/-- ints above a base -/
def IntP (H : Int) (v : Value) : Prop := ∃ (n : Nat) (t : Tok), n < 128 ∧ v = .int (H + (n : Int)) t
def fH (H : Int) : Value → Nat
  | .int i _ => (i - H).toNat
  | _ => 0
theorem fH_int (H : Int) (n : Nat) (t : Tok) : fH H (.int (H + (n : Int)) t) = n := by show (H + (n : Int) - H).toNat = n; omega
theorem cmpH {H : Int} {x y : Value} (hx : IntP H x) (hy : IntP H y) : Cmp prog w K mg mb os gs g (fun a b => ltN (fH H a) (fH H b)) x y := by
  obtain ⟨n, t, _, rfl⟩ := hx
  obtain ⟨m, u, _, rfl⟩ := hy
  intro A L l news s Q E _ σ h
  refine r_lt ?_
  have e : decide (H + (n : Int) < H + (m : Int)) = ltN (fH H (.int (H + (n : Int)) t)) (fH H (.int (H + (m : Int)) u)) := by
    rw [fH_int, fH_int]
    unfold ltN
    by_cases h : n < m
    · rw [decide_eq_true h, decide_eq_true (by omega)]
    · rw [decide_eq_false h, decide_eq_false (by omega)]
  rw [e]
  exact h s σ
theorem intsP {H : Int} : ∀ {vs : List Value}, (∀ v ∈ vs, IntP H v) → IntsAre vs ((vs.map (fH H)).map fun (n : Nat) => H + (n : Int))
  | [], _ => .nil
  | v :: vs, h => by
    obtain ⟨n, t, _, rfl⟩ := h v (.head _)
    rw [List.map_cons, List.map_cons, fH_int]
    exact .cons _ _ (intsP fun x hx => h x (.tail _ hx))
/-- list against a new empty one -/
theorem r_neNil {a b : Addr} {vs : List Value} {ns : List Int} {n m : Nat} {Q : Value → Shared → Prop} (σ : Sx K mg mb os gs g L l news s) (ρ : Room A 0) (ha : (a, listOf vs.toArray n) ∈ news) (hb : (b, listOf #[] m) ∈ news) (hi : IntsAre vs ns)
    (h : Q (.bool (!vs.isEmpty)) s) : wpAny (model prog w) A (compareOp .NotEq (.ref a) (.ref b)) Q E s := by
  have hl := ints_len hi
  refine ke_ne_ints (ys := []) (isL σ ha) (isL σ hb) hi .nil (by have := ρ.units; omega) ?_
  have e : (!decide (ns = [])) = !vs.isEmpty := by
    cases vs with
    | nil => cases hi; rfl
    | cons v vs => cases hi; rfl
  rw [e]; exact h
end
end Mine
end
section
open PySem PySem.W PyProof.Rows PySem.Calls
set_option maxRecDepth 100000
namespace Mine
theorem run_nil (p n : Nat) (tN : List Nat) (wN : List (Nat × Nat)) : run p n ([], tN, wN) = some (tN, wN) := by cases n <;> rfl
theorem run_cons {p n : Nat} {h : List Nat} {x : Nat} {tN : List Nat} {wN : List (Nat × Nat)} {r : List Nat × List (Nat × Nat)} {v : Nat} {h' : List Nat} (hr : run p n (h, tN, wN) = some r) (hg : gpop 0 ltN h = some (v, h')) (hx : x ∈ h) :
    ∃ n' h2 w2, n = n' + 1 ∧ runAll v (stepsL v p (7 - p)) (h', wN) = some (h2, w2) ∧ run p n' (h2, tN ++ [v], w2) = some r := by
  cases n with
  | zero =>
    cases h with
    | nil => cases hx
    | cons _ _ => cases hr
  | succ n =>
    rw [run, hg] at hr
    dsimp only at hr
    cases e : runAll v (stepsL v p (7 - p)) (h', wN) with
    | none => rw [e] at hr; cases hr
    | some q =>
      rw [e] at hr
      exact ⟨n, q.1, q.2, rfl, rfl, hr⟩
theorem runAll_cons {v m : Nat} {r : List Nat} {st q : List Nat × List (Nat × Nat)} (h : runAll v (m :: r) st = some q) : ∃ a b, getN (inSt st m).2 m = some a ∧ getN (inSt st m).2 v = some b ∧ m < 128 ∧ runAll v r ((inSt st m).1, stN (inSt st m).2 m (a + b)) = some q := by
  rw [runAll] at h
  cases e : runIn v st m with
  | none => rw [e] at h; cases h
  | some st' =>
    rw [e] at h
    unfold runIn upd at e
    cases e1 : getN (inSt st m).2 m with
    | none => rw [e1] at e; cases e
    | some a =>
      rw [e1] at e
      dsimp only at e
      cases e2 : getN (inSt st m).2 v with
      | none => rw [e2] at e; cases e
      | some b =>
        rw [e2] at e
        dsimp only at e
        by_cases hm : m < 128
        · rw [if_pos hm] at e
          injection e with e
          subst e
          exact ⟨a, b, rfl, rfl, hm, h⟩
        · rw [if_neg hm] at e; cases e
theorem hpop_mem (lt : Value → Value → Bool) (P : Value → Prop) (p : List Value) (y : Value) (h : ∀ v ∈ p, P v) (hy : P y) : P (hpop lt p y).1 ∧ (∀ v ∈ (hpop lt p y).2, P v) ∧ (hpop lt p y).2.length = p.length := by
  cases p with
  | nil => exact ⟨hy, fun _ h => (by cases h), rfl⟩
  | cons x r =>
    refine ⟨h x (.head _), sup_mem lt P (y :: r) (by simp) (fun v hv => ?_), ?_⟩
    · cases hv with
      | head => exact hy
      | tail _ hv => exact h v (.tail _ hv)
    · show (sup lt (y :: r)).length = _
      rw [sup_len lt (y :: r) (by simp)]; rfl
theorem stN_len (ws : List (Nat × Nat)) (k v : Nat) : (stN ws k v).length ≤ ws.length + 1 := by
  unfold stN
  split
  · rw [List.length_map]; omega
  · simp
theorem find_map (k v : Nat) : ∀ ws : List (Nat × Nat), (ws.map fun w => if w.1 = k then (w.1, v) else w).length = ws.length := fun ws => List.length_map _
theorem stN_in {ws : List (Nat × Nat)} {k v a : Nat} (h : getN ws k = some a) : (stN ws k v).length = ws.length := by
  unfold stN
  have : (ws.any fun w => decide (w.1 = k)) = true := by
    unfold getN at h
    rw [Option.map_eq_some_iff] at h
    obtain ⟨w, h1, _⟩ := h
    exact List.any_eq_true.mpr ⟨w, List.mem_of_find?_eq_some h1, by simpa using List.find?_some h1⟩
  rw [if_pos this, List.length_map]
end Mine
end
section
open PySem PySem.W PyProof.Rows PySem.Calls
set_option maxRecDepth 100000
namespace Mine
section
variable {prog : Program} {w : World} {A : Around} {E : Value → Shared → Prop}
  {K : Frag} {mg mb : Str → Option Value} {s : Shared}
/-- the law itself is called: no frame of ours is there yet -/
theorem r_callC0 {n : Nat} {f : Addr} {name qual y : Str} {params : Arguments} {body : List Stmt} {scope : Scope} {dV kV doc pm cdv ct oc : Value} {an od : Option Addr} {osl : Array (Option Value)} {args : List Value} {binds : List (Str × Value)} {Q : Value → Shared → Prop}
    (X : Tp K mg mb s.heap) (ρ : Room A (n + 1))
    (ho : K.lookup f = some ⟨oc, od, .func (fnOf name qual params body scope dV kV doc pm an cdv ct), osl⟩) (hcd : codeIn K cdv qual = true)
    (hbind : bindArgs (fnOf name qual params body scope dV kV doc pm an cdv ct) ⟨args, []⟩ = pure binds) (hloc : ∀ y ∈ binds, scope.names.lookup y.1 = some .local)
    (hnd : (binds.map (·.1)).Nodup) (hcl : ∀ k, cellsFrom k scope.names [] = [(y, k)])
    (h : ∀ L' oC s₁, oC.data = .cell none → Room (A.deeper (callEnvC (fnOf name qual params body scope dV kV doc pm an cdv ct) L' f)) n → Sx K mg mb s.os s.gens s.heap L' binds ((L' + 1, oC) :: []) s₁ →
      wpAny (model prog w) (A.deeper (callEnvC (fnOf name qual params body scope dV kV doc pm an cdv ct) L' f)) (execs body (callEnvC (fnOf name qual params body scope dV kV doc pm an cdv ct) L' f)) (fun fl s' => Q (match fl with | .ret v => v | _ => .none) s') (fun _ _ => False) s₁)
    (hco : scope.isCoroutine = false) (hgen : scope.isGenerator = false) (hk : scope.kind = .function) :
    wpAny (model prog w) A (call (.ref f) args) Q E s := by
  refine wpAny_call (codeAny_call_cells (fd := fnOf name qual params body scope dV kV doc pm an cdv ct) (body := body) (binds := binds) ρ.depth (X.x _ _ ho) rfl X.lim (codeRec_of X.x hcd) rfl hbind rfl (fun x hx => .inl (hloc x hx)) (fun s₁ x => ?_) hco hgen hk)
  have gN : ∀ a, s.heap.objs.size ≤ a → s.heap.get? a = none := fun a ha => by
    cases q : s.heap.get? a with
    | none => rfl
    | some z => exact absurd (Heap.lt_size q) (Nat.not_lt.mpr ha)
  have hc : (callEnvC (fnOf name qual params body scope dV kV doc pm an cdv ct) s.heap.objs.size f).cells = [(y, s.heap.objs.size + 1)] := hcl _
  obtain ⟨oC, hoC, hdC⟩ := x.cell y (s.heap.objs.size + 1) (by rw [hc]; simp)
  have hbC : bindC (callEnvC (fnOf name qual params body scope dV kV doc pm an cdv ct) s.heap.objs.size f).kindOf binds (fun _ => none) y = none := by
    have : ∀ (b : List (Str × Value)) (m : Str → Option Value), (∀ x ∈ b, scope.names.lookup x.1 = some .local) → bindC (callEnvC (fnOf name qual params body scope dV kV doc pm an cdv ct) s.heap.objs.size f).kindOf b m = m := by
      intro b
      induction b with
      | nil => intro m _; rfl
      | cons p r ih =>
        intro m hb
        obtain ⟨n, v⟩ := p
        have e : (callEnvC (fnOf name qual params body scope dV kV doc pm an cdv ct) s.heap.objs.size f).kindOf n = some .local := hb (n, v) (.head _)
        unfold bindC
        rw [if_pos e]
        exact ih m fun x hx => hb x (.tail _ hx)
    rw [this _ _ hloc]
  rw [hbC] at hdC
  obtain ⟨h₁, tk, rfl⟩ := x.toInCall.same
  have hns := x.toInCall.ns
  have hk₁ := x.toInCall.keep
  have bl := bindL_spec (kindOf := (callEnvC (fnOf name qual params body scope dV kV doc pm an cdv ct) s.heap.objs.size f).kindOf) binds (fun _ => none) hloc hnd
  refine wpAny_mono (h s.heap.objs.size oC _ hdC ρ.deeper ⟨ns_of hns bl.1, hk₁, gN _ (Nat.le_refl _), fun p hp => ?_, by simp, X, rfl, rfl⟩) (fun _ _ x => x) (fun _ _ x => x.elim)
  rw [List.mem_singleton.mp hp]
  exact ⟨hoC, Nat.ne_of_gt (Nat.lt_succ_self _), gN _ (Nat.le_succ _)⟩
end
end Mine
end
section
open PySem PySem.W PyProof.Rows
set_option maxRecDepth 100000
set_option maxHeartbeats 8000000
namespace Mine
open_top hd for PySem.Challenge.rw_oc0072_02
end Mine
end
section
open PySem PySem.W PyProof.Rows PySem.Calls
set_option maxRecDepth 100000
set_option maxHeartbeats 4000000
namespace Mine

abbrev P1 : Program := Challenge.rw_oc0072_02.row.prog
local macro_rules | `(tactic| walk_at "mm") => `(tactic| first | exact List.Mem.head _ | (refine List.Mem.tail _ ?_; walk_at "mm"))
local macro_rules | `(tactic| walk_at "nd") => `(tactic| (simp only [List.map_cons, List.map_nil]; decide))
local macro_rules | `(tactic| walk_at "rm") => `(tactic| first | exact Rm.nil | ((with_reducible refine' Rm.hit ?rmb); (case rmb => walk_at "rm")) | (refine' Rm.skip ?rma ?rmb; (case rma => decide); (case rmb => walk_at "rm")))
local macro_rules | `(tactic| walk_at "up") => `(tactic| first | (with_reducible exact Up.head) | (refine' Up.tail ?upa; (case upa => walk_at "up")))
local macro_rules | `(tactic| walk_at "pick") => `(tactic| first | (with_reducible exact Pick.head) | (refine' Pick.tail ?pka; (case pka => walk_at "pick")))

local macro_rules | `(tactic| walk_at "sub") => `(tactic| first | exact List.forall_mem_nil _ | (refine List.forall_mem_cons.mpr ⟨?sba, ?sbb⟩; (case sba => walk_at "mm"); (case sbb => walk_at "sub")))

theorem siftdown {w : World} {mg mb : Str → Option Value} {os : OsState} {gs : Array GenState} {g : Heap} {A : Around} {L : Addr} {l : List (Str × Value)} {rest : List (Addr × Obj)} {s : Shared} {Q E : Value → Shared → Prop}
    {a : Addr} {vs : List Value} {n p : Nat} {t u : Tok} (P : Value → Prop) (lt : Value → Value → Bool)
    (σ : Sx (hd.heap_39 w.params) mg mb os gs g L l ((a, listOf vs.toArray n) :: rest) s) (ρ : Room A 1)
    (hc : ∀ x y, P x → P y → Cmp P1 w (hd.heap_39 w.params) mg mb os gs g lt x y) (hP : ∀ v ∈ vs, P v) (hp : p < vs.length) (hz : vs.length ≤ 2 ^ 20)
    (k : ∀ s', Sx (hd.heap_39 w.params) mg mb os gs g L l ((a, listOf (sdn lt vs p).toArray n) :: rest) s' → Q .none s') :
    wpAny (model P1 w) A (call (.ref 52) [.ref a, .int 0 t, .int p u]) Q E s := by
  refine r_call (binds := [("heap", .ref a), ("startpos", .int 0 t), ("pos", .int p u)]) σ ρ (by k_is) (by k_is) (BindsTo.of_eq rfl) (locs rfl) (by walk_at "nd") (fun L' oL s nL ρ σ => ?_) rfl rfl rfl (by decide)
  have hg : vs[p]? = some (vs.getD p .none) := by rw [List.getD_eq_getElem?_getD, List.getElem?_eq_getElem hp]; rfl
  refine wpAny_execs_cons (wpAny_Assign_Name (Subscript_ (r_loc σ (by walk_at "mm") (r_loc σ (by walk_at "mm") (r_item (k := (p : Int)) σ (by walk_at "mm") (Int.natCast_nonneg p) (by omega) (List.getElem?_toArray.trans hg) ?_)))))
  refine r_st σ (by walk_at "rm") fun s σ => ?_
  dsimp only
  have hx : P (vs.getD p .none) := hP _ (List.mem_of_getElem? hg)
  generalize hxv : vs.getD p .none = x at hx hg σ
  refine r_seq (fun s => ∃ vs' p' u', Sx (hd.heap_39 w.params) mg mb os gs g L' [("newitem", x), ("heap", .ref a), ("pos", .int ((p' : Nat) : Int) u')] ((L, oL) :: (a, listOf vs'.toArray n) :: rest) s ∧ (vs', p') = sdL lt x p vs p ∧ p' < vs'.length ∧ vs'.length = vs.length)
    (r_while (fun m s => ∃ vs' p' u' f, Sx (hd.heap_39 w.params) mg mb os gs g L' [("newitem", x), ("heap", .ref a), ("startpos", .int 0 t), ("pos", .int ((p' : Nat) : Int) u')] ((L, oL) :: (a, listOf vs'.toArray n) :: rest) s
    ∧ p' ≤ f ∧ sdL lt x f vs' p' = sdL lt x p vs p ∧ p' < vs'.length ∧ vs'.length = vs.length ∧ (∀ v ∈ vs', P v) ∧ m = p') ?_ p ⟨vs, p, u, p, σ, Nat.le_refl _, rfl, hp, rfl, hP, rfl⟩) ?_
  · rintro m s ⟨vs', p', u', f, σ, hpf, he, hp', hl, hP', rfl⟩
    refine wpAny_isTrue_Compare1 (r_loc σ (by walk_at "mm") (r_loc σ (by walk_at "mm") (r_gt (wpAny_truthy_bool ?_))))
    by_cases h0 : m = 0
    · subst h0
      simp only [Int.natCast_zero, gt_iff_lt, Int.lt_irrefl, decide_false, Bool.false_eq_true, if_false]
      refine ⟨trivial, vs', 0, u', σ.loc (by walk_at "sub"), ?_, hp', hl⟩
      rw [← he]
      cases f <;> simp [sdL]
    · have hgt : decide (((m : Nat) : Int) > 0) = true := decide_eq_true (by omega)
      rw [hgt]
      simp only [if_true]
      have hq : (m - 1) / 2 < vs'.length := by omega
      have hgq : vs'[(m - 1) / 2]? = some (vs'.getD ((m - 1) / 2) .none) := by rw [List.getD_eq_getElem?_getD, List.getElem?_eq_getElem hq]; rfl
      obtain ⟨f', rfl⟩ : ∃ f', f = f' + 1 := ⟨f - 1, by omega⟩
      have he' := he
      rw [sdL_step lt x f' vs' m h0] at he'
      generalize hyv : vs'.getD ((m - 1) / 2) .none = y at hgq he'
      have hy : P y := hP' _ (List.mem_of_getElem? hgq)
      refine wpAny_execs_cons (wpAny_Assign_Name (wpAny_BinOp (wpAny_BinOp (r_loc σ (by walk_at "mm") (r_int σ fun t1 s σ => r_sub σ fun t2 s σ => r_int σ fun t3 s σ => r_half σ (by omega) fun t4 s σ => ?_)))))
      refine r_st σ (by walk_at "rm") fun s σ => ?_
      dsimp only
      have ei : ((m : Int) - 1) / 2 = (((m - 1) / 2 : Nat) : Int) := by omega
      rw [ei] at σ
      refine wpAny_execs_cons (wpAny_Assign_Name (Subscript_ (r_loc σ (by walk_at "mm") (r_loc σ (by walk_at "mm") (r_item σ (by walk_at "mm") (Int.natCast_nonneg _) (by omega) (List.getElem?_toArray.trans hgq) ?_)))))
      refine r_st σ (by walk_at "rm") fun s σ => ?_
      dsimp only
      refine wpAny_execs_cons (wpAny_If (wpAny_isTrue_Compare1 (r_loc σ (by walk_at "mm") (r_loc σ (by walk_at "mm") (hc x y hx hy _ _ _ _ _ _ _ ρ σ fun s σ => wpAny_truthy_bool ?_)))))
      cases hb : lt x y with
      | true =>
        rw [hb] at he'
        simp only [if_true] at he' ⊢
        refine wpAny_execs_cons (wpAny_Assign_Subscript (r_loc σ (by walk_at "mm") (r_loc σ (by walk_at "mm") (r_loc σ (by walk_at "mm") (r_set σ (by walk_at "up") (Int.natCast_nonneg m) (by omega) (by omega) fun s σ => ?_)))))
        dsimp only
        rw [Int.toNat_natCast] at σ
        refine wpAny_execs_cons (wpAny_Assign_Name (r_loc σ (by walk_at "mm") (r_st σ (by walk_at "rm") fun s σ => ?_)))
        dsimp only
        refine wpAny_execs_cons (wpAny_Continue ?_)
        dsimp only
        exact ⟨(m - 1) / 2, by omega, _, (m - 1) / 2, _, f', σ.loc (by walk_at "sub"), by omega, he', by rw [List.length_set]; omega, by rw [List.length_set]; exact hl, fun v hv => (List.mem_or_eq_of_mem_set hv).elim (hP' v) (fun e => e ▸ hy), rfl⟩
      | false =>
        rw [hb] at he'
        simp only [Bool.false_eq_true, if_false] at he' ⊢
        refine wpAny_execs_nil ?_
        dsimp only
        refine wpAny_execs_cons (wpAny_Break ?_)
        exact ⟨trivial, vs', m, u', σ.loc (by walk_at "sub"), he', hp', hl⟩
  · rintro s ⟨vs', p', u', σ, he, hp', hl⟩
    refine wpAny_execs_cons (wpAny_Assign_Subscript (r_loc σ (by walk_at "mm") (r_loc σ (by walk_at "mm") (r_loc σ (by walk_at "mm") (r_set σ (by walk_at "up") (Int.natCast_nonneg p') (by omega) (by omega) fun s σ => ?_)))))
    dsimp only
    rw [Int.toNat_natCast] at σ
    refine wpAny_execs_nil (k s ?_)
    have e1 : sdn lt vs p = vs'.set p' x := by unfold sdn; rw [hxv, ← he]
    rw [e1]
    exact σ.back nL (by walk_at "pick")
end Mine
end
section
open PySem PySem.W PyProof.Rows PySem.Calls
set_option maxRecDepth 100000
set_option maxHeartbeats 4000000
namespace Mine
local macro_rules | `(tactic| walk_at "mm") => `(tactic| first | exact List.Mem.head _ | (refine List.Mem.tail _ ?_; walk_at "mm"))
local macro_rules | `(tactic| walk_at "nd") => `(tactic| (simp only [List.map_cons, List.map_nil]; decide))
local macro_rules | `(tactic| walk_at "rm") => `(tactic| first | exact Rm.nil | ((with_reducible refine' Rm.hit ?rmb); (case rmb => walk_at "rm")) | (refine' Rm.skip ?rma ?rmb; (case rma => decide); (case rmb => walk_at "rm")))
local macro_rules | `(tactic| walk_at "up") => `(tactic| first | (with_reducible exact Up.head) | (refine' Up.tail ?upa; (case upa => walk_at "up")))
local macro_rules | `(tactic| walk_at "pick") => `(tactic| first | (with_reducible exact Pick.head) | (refine' Pick.tail ?pka; (case pka => walk_at "pick")))
local macro_rules | `(tactic| walk_at "sub") => `(tactic| first | exact List.forall_mem_nil _ | (refine List.forall_mem_cons.mpr ⟨?sba, ?sbb⟩; (case sba => walk_at "mm"); (case sbb => walk_at "sub")))

theorem siftup {w : World} {mg mb : Str → Option Value} {os : OsState} {gs : Array GenState} {g : Heap} {A : Around} {L : Addr} {l : List (Str × Value)} {rest : List (Addr × Obj)} {s : Shared} {Q E : Value → Shared → Prop}
    {a : Addr} {vs : List Value} {n : Nat} {u : Tok} (P : Value → Prop) (lt : Value → Value → Bool)
    (σ : Sx (hd.heap_39 w.params) mg mb os gs g L l ((a, listOf vs.toArray n) :: rest) s) (ρ : Room A 2)
    (hc : ∀ x y, P x → P y → Cmp P1 w (hd.heap_39 w.params) mg mb os gs g lt x y) (hP : ∀ v ∈ vs, P v) (hp : 0 < vs.length) (hz : vs.length ≤ 2 ^ 20)
    (k : ∀ s', Sx (hd.heap_39 w.params) mg mb os gs g L l ((a, listOf (sup lt vs).toArray n) :: rest) s' → Q .none s') :
    wpAny (model P1 w) A (call (.ref 59) [.ref a, .int 0 u]) Q E s := by
  refine r_call (binds := [("heap", .ref a), ("pos", .int 0 u)]) σ ρ (by k_is) (by k_is) (BindsTo.of_eq rfl) (locs rfl) (by walk_at "nd") (fun L' oL s nL ρ σ => ?_) rfl rfl rfl (by decide)
  have hx : P (vs.getD 0 .none) := hP _ (getD_mem hp)
  refine wpAny_execs_cons (wpAny_Assign_Name (r_fnB σ (by k_is) boot_len (args_cons (r_loc σ (by walk_at "mm") (args_nil (r_len σ (by walk_at "mm") (by simp; omega) fun t1 s σ => r_st σ (by walk_at "rm") fun s σ => ?_))))))
  dsimp only
  refine wpAny_execs_cons (wpAny_Assign_Name (r_loc σ (by walk_at "mm") (r_st σ (by walk_at "rm") fun s σ => ?_)))
  dsimp only
  refine wpAny_execs_cons (wpAny_Assign_Name (Subscript_ (r_loc σ (by walk_at "mm") (r_loc σ (by walk_at "mm") (r_item (k := 0) σ (by walk_at "mm") (Int.le_refl 0) (by omega) (getD_arr (p := 0) hp) (r_st σ (by walk_at "rm") fun s σ => ?_))))))
  dsimp only
  refine wpAny_execs_cons (wpAny_Assign_Name (wpAny_BinOp (wpAny_BinOp (r_int σ fun t2 s σ => r_loc σ (by walk_at "mm") (r_mul σ (IntMulOk.of_left (by decide)) fun t3 s σ => r_int σ fun t4 s σ => r_add σ fun t5 s σ => r_st σ (by walk_at "rm") fun s σ => ?_)))))
  dsimp only
  generalize hxv : vs.getD 0 .none = x at hx σ
  have hsz : ((vs.toArray.size : Nat) : Int) = (vs.length : Int) := by simp
  rw [hsz] at σ
  refine r_seq (fun s => ∃ vs' p' u1, Sx (hd.heap_39 w.params) mg mb os gs g L' [("pos", .int ((p' : Nat) : Int) u1), ("newitem", x), ("startpos", .int 0 u), ("heap", .ref a)] ((L, oL) :: (a, listOf vs'.toArray n) :: rest) s
      ∧ (vs', p') = suL lt vs.length vs 0 ∧ p' < vs'.length ∧ vs'.length = vs.length ∧ (∀ v ∈ vs', P v))
    (r_while (fun m s => ∃ vs' p' u1 u2 f, Sx (hd.heap_39 w.params) mg mb os gs g L' [("childpos", .int ((2 * p' + 1 : Nat) : Int) u2), ("pos", .int ((p' : Nat) : Int) u1), ("newitem", x), ("startpos", .int 0 u), ("endpos", .int (vs.length : Int) t1), ("heap", .ref a)] ((L, oL) :: (a, listOf vs'.toArray n) :: rest) s
      ∧ vs'.length - p' ≤ f ∧ suL lt f vs' p' = suL lt vs.length vs 0 ∧ p' < vs'.length ∧ vs'.length = vs.length ∧ (∀ v ∈ vs', P v) ∧ m = vs'.length - p') ?_ (vs.length - 0) ⟨vs, 0, u, t5, vs.length, σ.loc (by walk_at "sub"), by omega, rfl, hp, rfl, hP, rfl⟩) ?_
  · rintro m s ⟨vs', p', u1, u2, f, σ, hpf, he, hp', hl, hP', rfl⟩
    refine wpAny_isTrue_Compare1 (r_loc σ (by walk_at "mm") (r_loc σ (by walk_at "mm") (r_lt (wpAny_truthy_bool ?_))))
    by_cases h0 : 2 * p' + 1 < vs'.length
    · have hgt : decide (((2 * p' + 1 : Nat) : Int) < (vs.length : Int)) = true := decide_eq_true (by omega)
      rw [hgt]
      simp only [if_true]
      obtain ⟨f', rfl⟩ : ∃ f', f = f' + 1 := ⟨f - 1, by omega⟩
      refine wpAny_execs_cons (wpAny_Assign_Name (wpAny_BinOp (r_loc σ (by walk_at "mm") (r_int σ fun t6 s σ => r_add σ fun t7 s σ => r_st σ (by walk_at "rm") fun s σ => ?_))))
      dsimp only
      have ei : ((2 * p' + 1 : Nat) : Int) + 1 = ((2 * p' + 2 : Nat) : Int) := by omega
      rw [ei] at σ
      -- the test: which child
      refine r_seq (fun s => ∃ (c : Nat) (tc : Tok), c < vs'.length ∧ p' < c ∧ suL lt f' (vs'.set p' (vs'.getD c .none)) c = suL lt vs.length vs 0 ∧
          Sx (hd.heap_39 w.params) mg mb os gs g L' [("childpos", .int (c : Int) tc), ("pos", .int ((p' : Nat) : Int) u1), ("newitem", x), ("startpos", .int 0 u), ("endpos", .int (vs.length : Int) t1), ("heap", .ref a)] ((L, oL) :: (a, listOf vs'.toArray n) :: rest) s) ?_ ?_
      · refine wpAny_If (r_and1 (wpAny_isTrue_Compare1 (r_loc σ (by walk_at "mm") (r_loc σ (by walk_at "mm") (r_lt (wpAny_truthy_bool ?_))))))
        by_cases h2 : 2 * p' + 2 < vs'.length
        · have hg2 : decide (((2 * p' + 2 : Nat) : Int) < (vs.length : Int)) = true := decide_eq_true (by omega)
          rw [hg2]
          simp only [if_true]
          refine isTrue_not (wpAny_isTrue_Compare1 (Subscript_ (r_loc σ (by walk_at "mm") (r_loc σ (by walk_at "mm") (r_item σ (by walk_at "mm") (Int.natCast_nonneg _) (by omega) (getD_arr h0) (Subscript_ (r_loc σ (by walk_at "mm") (r_loc σ (by walk_at "mm") (r_item σ (by walk_at "mm") (Int.natCast_nonneg _) (by omega) (getD_arr h2)
            (hc _ _ (hP' _ (getD_mem h0)) (hP' _ (getD_mem h2)) _ _ _ _ _ _ _ (ρ.le (by omega)) σ fun s σ => wpAny_truthy_bool ?_))))))))))
          cases hb : lt (vs'.getD (2 * p' + 1) .none) (vs'.getD (2 * p' + 2) .none) with
          | false =>
            simp only [Bool.not_false, if_true]
            refine wpAny_execs_cons (wpAny_Assign_Name (r_loc σ (by walk_at "mm") (r_st σ (by walk_at "rm") fun s σ => ?_)))
            dsimp only
            refine wpAny_execs_nil ⟨rfl, 2 * p' + 2, t7, h2, by omega, ?_, σ.loc (by walk_at "sub")⟩
            rw [← he, suL_right lt f' vs' p' h0 h2 hb]
          | true =>
            simp only [Bool.not_true, Bool.false_eq_true, if_false]
            refine wpAny_execs_nil ⟨rfl, 2 * p' + 1, u2, h0, by omega, ?_, σ.loc (by walk_at "sub")⟩
            rw [← he, suL_left lt f' vs' p' h0 (fun z => by rw [hb] at z; cases z.2)]
        · have hg2 : decide (((2 * p' + 2 : Nat) : Int) < (vs.length : Int)) = false := decide_eq_false (by omega)
          rw [hg2]
          simp only [Bool.false_eq_true, if_false]
          refine wpAny_execs_nil ⟨rfl, 2 * p' + 1, u2, h0, by omega, ?_, σ.loc (by walk_at "sub")⟩
          rw [← he, suL_left lt f' vs' p' h0 (fun z => h2 z.1)]
      · rintro s ⟨c, tc, hcl, hpc, hs, σ⟩
        refine wpAny_execs_cons (wpAny_Assign_Subscript (Subscript_ (r_loc σ (by walk_at "mm") (r_loc σ (by walk_at "mm") (r_item σ (by walk_at "mm") (Int.natCast_nonneg _) (by omega) (getD_arr hcl) (r_loc σ (by walk_at "mm") (r_loc σ (by walk_at "mm") (r_set σ (by walk_at "up") (Int.natCast_nonneg p') (by omega) (by omega) fun s σ => ?_))))))))
        dsimp only
        rw [Int.toNat_natCast] at σ
        refine wpAny_execs_cons (wpAny_Assign_Name (r_loc σ (by walk_at "mm") (r_st σ (by walk_at "rm") fun s σ => ?_)))
        dsimp only
        refine wpAny_execs_cons (wpAny_Assign_Name (wpAny_BinOp (wpAny_BinOp (r_int σ fun t2 s σ => r_loc σ (by walk_at "mm") (r_mul σ (IntMulOk.of_left (by decide)) fun t3 s σ => r_int σ fun t4 s σ => r_add σ fun t5 s σ => r_st σ (by walk_at "rm") fun s σ => ?_)))))
        dsimp only
        have ec : 2 * (c : Int) + 1 = ((2 * c + 1 : Nat) : Int) := by omega
        rw [ec] at σ
        refine wpAny_execs_nil ⟨vs'.length - c, by omega, _, c, _, _, f', σ.loc (by walk_at "sub"), by rw [List.length_set]; omega, hs, by rw [List.length_set]; exact hcl, by rw [List.length_set]; exact hl, fun v hv => (List.mem_or_eq_of_mem_set hv).elim (hP' v) (fun e => e ▸ hP' _ (getD_mem hcl)), by rw [List.length_set]⟩
    · have hgt : decide (((2 * p' + 1 : Nat) : Int) < (vs.length : Int)) = false := decide_eq_false (by omega)
      rw [hgt]
      simp only [Bool.false_eq_true, if_false]
      exact ⟨trivial, vs', p', u1, σ.loc (by walk_at "sub"), by rw [← he, suL_end lt f vs' p' h0], hp', hl, hP'⟩
  · rintro s ⟨vs', p', u1, σ, he, hp', hl, hP'⟩
    refine wpAny_execs_cons (wpAny_Assign_Subscript (r_loc σ (by walk_at "mm") (r_loc σ (by walk_at "mm") (r_loc σ (by walk_at "mm") (r_set σ (by walk_at "up") (Int.natCast_nonneg p') (by omega) (by omega) fun s σ => ?_)))))
    dsimp only
    rw [Int.toNat_natCast] at σ
    refine wpAny_execs_cons (wpAny_Expr (r_fn σ (by k_is) (by k_is) (args_cons (r_loc σ (by walk_at "mm") (args_cons (r_loc σ (by walk_at "mm") (args_cons (r_loc σ (by walk_at "mm") (args_nil ⟨σ.keep, ?_⟩)))))))))
    refine siftdown P lt (σ.pick (Pick.tail Pick.head)) ρ hc (fun v hv => (List.mem_or_eq_of_mem_set hv).elim (hP' v) (fun e => e ▸ hx)) (by rw [List.length_set]; exact hp') (by rw [List.length_set]; omega) fun s σ => ?_
    dsimp only
    refine wpAny_execs_nil (k s ?_)
    have e1 : sup lt vs = sdn lt (vs'.set p' x) p' := by unfold sup; rw [hxv, ← he]
    rw [e1]
    exact σ.back nL (by walk_at "pick")

theorem heappush {w : World} {mg mb : Str → Option Value} {os : OsState} {gs : Array GenState} {g : Heap} {A : Around} {L : Addr} {l : List (Str × Value)} {rest : List (Addr × Obj)} {s : Shared} {Q E : Value → Shared → Prop}
    {a : Addr} {vs : List Value} {n : Nat} {v : Value} (P : Value → Prop) (lt : Value → Value → Bool)
    (σ : Sx (hd.heap_39 w.params) mg mb os gs g L l ((a, listOf vs.toArray n) :: rest) s) (ρ : Room A 2)
    (hc : ∀ x y, P x → P y → Cmp P1 w (hd.heap_39 w.params) mg mb os gs g lt x y) (hP : ∀ v ∈ vs, P v) (hv : P v) (hz : vs.length < 2 ^ 20)
    (k : ∀ s', Sx (hd.heap_39 w.params) mg mb os gs g L l ((a, listOf (hpush lt vs v).toArray (n + 1)) :: rest) s' → Q .none s') :
    wpAny (model P1 w) A (call (.ref 38) [.ref a, v]) Q E s := by
  refine r_call (binds := [("heap", .ref a), ("item", v)]) σ ρ (by k_is) (by k_is) (BindsTo.of_eq rfl) (locs rfl) (by walk_at "nd") (fun L' oL s nL ρ σ => ?_) rfl rfl rfl (by decide)
  refine wpAny_execs_cons (wpAny_Expr (r_meth σ (by walk_at "mm") PySem.F.slot_list_append PySem.F.type_list_append (r_loc σ (by walk_at "mm") ⟨rfl, rfl⟩) (r_with1 (r_loc σ (by walk_at "mm") (r_append σ (by walk_at "up") (by show vs.length ≤ 2 ^ 24; omega) fun s σ => ?_)))))
  dsimp only
  have e1 : ((((vs ++ [v]).toArray.size : Nat) : Int) - 1) = ((vs.length : Nat) : Int) := by simp
  refine wpAny_execs_cons (wpAny_Expr (r_fn σ (by k_is) (by k_is) (args_cons (r_loc σ (by walk_at "mm") (args_cons (r_int σ fun t1 s σ => args_cons (wpAny_BinOp (r_fnB σ (by k_is) boot_len (args_cons (r_loc σ (by walk_at "mm") (args_nil (r_len σ (by walk_at "mm") (by simp; omega) fun t2 s σ => r_int σ fun t3 s σ => r_sub σ fun t4 s σ => args_nil ⟨σ.keep, ?_⟩))))))))))))
  rw [e1]
  refine siftdown P lt (σ.pick (Pick.tail Pick.head)) ρ hc (fun x hx => ?_) (by simp) (by simp; omega) fun s σ => ?_
  · rcases List.mem_append.mp hx with z | z
    · exact hP x z
    · rw [List.mem_singleton.mp z]; exact hv
  dsimp only
  exact wpAny_execs_nil (k s (σ.back nL (by walk_at "pick")))

theorem heappop {w : World} {mg mb : Str → Option Value} {os : OsState} {gs : Array GenState} {g : Heap} {A : Around} {L : Addr} {l : List (Str × Value)} {rest : List (Addr × Obj)} {s : Shared} {Q E : Value → Shared → Prop}
    {a : Addr} {p : List Value} {y : Value} {n : Nat} (P : Value → Prop) (lt : Value → Value → Bool)
    (σ : Sx (hd.heap_39 w.params) mg mb os gs g L l ((a, listOf (p ++ [y]).toArray n) :: rest) s) (ρ : Room A 3)
    (hc : ∀ x y, P x → P y → Cmp P1 w (hd.heap_39 w.params) mg mb os gs g lt x y) (hP : ∀ v ∈ p, P v) (hy : P y) (hz : p.length < 2 ^ 20)
    (k : ∀ s', Sx (hd.heap_39 w.params) mg mb os gs g L l ((a, listOf (hpop lt p y).2.toArray (n + 1)) :: rest) s' → Q (hpop lt p y).1 s') :
    wpAny (model P1 w) A (call (.ref 45) [.ref a]) Q E s := by
  refine r_call (binds := [("heap", .ref a)]) σ ρ (by k_is) (by k_is) (BindsTo.of_eq rfl) (locs rfl) (by walk_at "nd") (fun L' oL s nL ρ σ => ?_) rfl rfl rfl (by decide)
  refine wpAny_execs_cons (wpAny_Assign_Name (r_meth σ (by walk_at "mm") PySem.F.slot_list_pop PySem.F.type_list_pop (r_loc σ (by walk_at "mm") ⟨rfl, rfl⟩) (r_with0 (r_pop σ (by walk_at "up") (by show p.length < 2 ^ 24; omega) fun s σ => r_st σ (by walk_at "rm") fun s σ => ?_))))
  dsimp only
  refine wpAny_execs_cons (wpAny_If (isTrue_plain (r_loc σ (by walk_at "mm") (r_truth σ (by walk_at "mm") (by simp; omega) fun s σ => ?_))))
  cases p with
  | nil =>
    simp only [List.isEmpty_toArray, List.isEmpty_nil, Bool.not_true, Bool.false_eq_true, if_false]
    refine wpAny_execs_nil ?_
    dsimp only
    exact wpAny_execs_cons (wpAny_Return_some (r_loc σ (by walk_at "mm") (k s (σ.back nL Pick.head))))
  | cons x r =>
    simp only [List.isEmpty_toArray, List.isEmpty_cons, Bool.not_false, if_true]
    refine wpAny_execs_cons (wpAny_Assign_Name (Subscript_ (r_loc σ (by walk_at "mm") (r_int σ fun t1 s σ => r_item (v := x) σ (by walk_at "mm") (Int.le_refl 0) (by omega) (by simp) (r_st σ (by walk_at "rm") fun s σ => ?_)))))
    dsimp only
    refine wpAny_execs_cons (wpAny_Assign_Subscript (r_loc σ (by walk_at "mm") (r_loc σ (by walk_at "mm") (r_int σ fun t2 s σ => r_set σ (by walk_at "up") (Int.le_refl 0) (by omega) (by simp) fun s σ => ?_))))
    dsimp only
    have e1 : (x :: r).set (0 : Int).toNat y = y :: r := rfl
    rw [e1] at σ
    refine wpAny_execs_cons (wpAny_Expr (r_fn σ (by k_is) (by k_is) (args_cons (r_loc σ (by walk_at "mm") (args_cons (r_int σ fun t3 s σ => args_nil ⟨σ.keep, ?_⟩))))))
    refine siftup P lt (σ.pick (Pick.tail Pick.head)) ρ hc (fun v hv => ?_) (by simp) (by simp only [List.length_cons] at hz ⊢; omega) fun s σ => ?_
    · cases hv with
      | head => exact hy
      | tail _ h => exact hP v (.tail _ h)
    dsimp only
    exact wpAny_execs_cons (wpAny_Return_some (r_loc σ (by walk_at "mm") (k s (σ.back nL (Pick.tail Pick.head)))))
end Mine
end
section
open PySem PySem.W PyProof.Rows PySem.Calls
set_option maxRecDepth 100000
set_option maxHeartbeats 4000000
namespace Mine
local macro_rules | `(tactic| walk_at "mm") => `(tactic| first | exact List.Mem.head _ | (refine List.Mem.tail _ ?_; walk_at "mm") | (refine List.mem_append_right _ ?_; walk_at "mm"))
local macro_rules | `(tactic| walk_at "nd") => `(tactic| (simp only [List.map_cons, List.map_nil]; decide))
local macro_rules | `(tactic| walk_at "rm") => `(tactic| first | exact Rm.nil | ((with_reducible refine' Rm.hit ?rmb); (case rmb => walk_at "rm")) | (refine' Rm.skip ?rma ?rmb; (case rma => decide); (case rmb => walk_at "rm")))
local macro_rules | `(tactic| walk_at "up") => `(tactic| first | (with_reducible exact Up.head) | (refine' Up.tail ?upa; (case upa => walk_at "up")) | (refine' Up.app ?upa _; (case upa => walk_at "up")))
local macro_rules | `(tactic| walk_at "pick") => `(tactic| first | (with_reducible exact Pick.head) | (refine' Pick.tail ?pka; (case pka => walk_at "pick")) | (refine' Pick.app ?pka _; (case pka => walk_at "pick")))
local macro_rules | `(tactic| walk_at "sub") => `(tactic| first | exact List.forall_mem_nil _ | (refine List.forall_mem_cons.mpr ⟨?sba, ?sbb⟩; (case sba => walk_at "mm"); (case sbb => walk_at "sub")))

theorem tabIs {w : World} {g : Heap} (X : Frag.In (hd.heap_39 w.params) g) : ∃ its, g.IsTuple 116 (List.toArray its) ∧ TabIs g its fmTab := by
  refine ⟨_, tup_K X (by k_is), ?_⟩
  unfold fmTab
  repeat' (first | exact trivial | (refine tab_cons (tup_K X (by k_is)) ?_ ?_) | (refine row_cons (tup_K X (by k_is)) ?_))

theorem sifmt {w : World} {mg mb : Str → Option Value} {os : OsState} {gs : Array GenState} {g : Heap} {A : Around} {L : Addr} {l : List (Str × Value)} {news : List (Addr × Obj)} {s : Shared} {Q E : Value → Shared → Prop} {m : Int} {t : Tok}
    (σ : Sx (hd.heap_39 w.params) mg mb os gs g L l news s) (ρ : Room A 1) (k : ∀ t s', Sx (hd.heap_39 w.params) mg mb os gs g L l news s' → Q (.int (Builtin.bitAnd m 61440) t) s') :
    wpAny (model P1 w) A (call (.ref 83) [.int m t]) Q E s := by
  refine r_call (binds := [("mode", .int m t)]) σ ρ (by k_is) (by k_is) (BindsTo.of_eq rfl) (locs rfl) (by walk_at "nd") (fun L' oL s nL ρ σ => ?_) rfl rfl rfl (by decide)
  exact wpAny_execs_cons (wpAny_Return_some (wpAny_BinOp (r_loc σ (by walk_at "mm") (r_int σ fun t s σ => r_and σ fun t s σ => k t s (σ.back nL (by walk_at "pick"))))))

theorem filemode {w : World} {mg mb : Str → Option Value} {os : OsState} {gs : Array GenState} {g : Heap} {A : Around} {L : Addr} {l : List (Str × Value)} {news : List (Addr × Obj)} {s : Shared} {Q E : Value → Shared → Prop} {m : Int} {t : Tok}
    (σ : Sx (hd.heap_39 w.params) mg mb os gs g L l news s) (ρ : Room A 2) (k : ∀ t s', Sx (hd.heap_39 w.params) mg mb os gs g L l news s' → Q (.str (Txt.join "" (fmFrom m 0 fmTab)) t) s') :
    wpAny (model P1 w) A (call (.ref 123) [.int m t]) Q E s := by
  obtain ⟨its, hT, hI⟩ := tabIs σ.t.x
  refine r_call (binds := [("mode", .int m t)]) σ ρ (by k_is) (by k_is) (BindsTo.of_eq rfl) (locs rfl) (by walk_at "nd") (fun L' oL s nL ρ σ => ?_) rfl rfl rfl (by decide)
  refine wpAny_execs_cons (wpAny_Assign_Name (List_ (args_nil (r_newList σ (by decide) fun a s σ => r_st σ (by walk_at "rm") fun s σ => ?_))))
  dsimp only
  refine r_seq (fun s => ∃ ps n, StrsAre ps (fmFrom m 0 fmTab) ∧ Sx (hd.heap_39 w.params) mg mb os gs g L' [("perm", .ref a), ("mode", .int m t)] ((a, listOf ps.toArray n) :: (L, oL) :: news) s) ?_ ?_
  · refine r_forE (K := hd.heap_39 w.params) (mg := mg) (mb := mb) (os := os) (gs := gs) (L := L') (g := g) (ρ.le (by omega)) (fun i (x : List Value × Nat) => StrsAre x.1 (fmFrom m 0 (fmTab.take i))) (fun _ => g) (fun _ => [("perm", .ref a), ("mode", .int m t)]) (fun x => (a, listOf x.1.toArray x.2) :: (L, oL) :: news) ([], 0) .nil (fun _ _ _ => Sub.refl g) hT ?_ ?_ ?_
    · exact r_fnT σ (by k_is) boot_enumerate (args_cons (r_glob σ (by k_is) (args_nil (r_enum σ hT fun it e s h1 h2 h3 σ => ⟨it, e, rfl, h1, h2, h3, σ⟩))))
    · rintro i ⟨ps, n⟩ own v T tt s hi hC hv hTT σ
      obtain ⟨row, ra, ris, hrow, rfl, hR, hRow⟩ := hI.get i hv
      refine r_two σ (ρ.le (by omega)) hTT fun s σ => r_st σ (by walk_at "rm") fun s σ => r_st σ (by walk_at "rm") fun s σ => ?_
      have hlen : ps.length ≤ 10 := by
        have z := strs_len hC
        have y : (fmFrom m 0 (fmTab.take i)).length ≤ 10 := by
          have : ∀ (r : List (List (Int × Str))) (k : Nat), (fmFrom m k r).length = r.length := by
            intro r
            induction r with
            | nil => intro _; rfl
            | cons a r ih => intro k; show (fmFrom m (k + 1) r).length + 1 = r.length + 1; rw [ih]
          rw [this, List.length_take]
          have : fmTab.length = 10 := rfl
          omega
        simp only at z
        omega
      have fin : ∀ (c : Str) (tc : Tok), c = fmAt m i row → StrsAre (ps ++ [.str c tc]) (fmFrom m 0 (fmTab.take (i + 1))) := fun c tc e => by
        rw [fmFrom_snoc m fmTab 0 i row hrow, Nat.zero_add, e]
        exact strs_app hC (.cons _ _ .nil)
      refine r_seq (fun s => ∃ c tc, c = fmAt m i row ∧ Sx (hd.heap_39 w.params) mg mb os gs g L' [("perm", .ref a), ("mode", .int m t)] (own ++ (a, listOf (ps ++ [Value.str c tc]).toArray (n + 1)) :: (L, oL) :: news) s) ?_ ?_
      · refine r_forT (K := hd.heap_39 w.params) (mg := mg) (mb := mb) (os := os) (gs := gs) (L := L') (g := g) (ρ.le (by omega)) (fun j (_ : Unit) => pick (fmP m i) (row.take j) = none) (fun _ => g) (fun _ => [("table", .ref ra), ("index", .int (i : Int) tt), ("perm", .ref a), ("mode", .int m t)]) (fun _ => own ++ (a, listOf ps.toArray n) :: (L, oL) :: news) () rfl (fun _ _ _ => Sub.refl g) hR (r_loc σ (by walk_at "mm") ⟨rfl, σ⟩) ?_ ?_
        · rintro j _ own2 v s hj hCj hvj σ
          obtain ⟨bc, T2, tb, tc, hbc, rfl, hT2⟩ := hRow.get j hvj
          refine r_two σ (ρ.le (by omega)) (hT2.at fun o e => σ.keep _ _ e) fun s σ => r_st σ (by walk_at "rm") fun s σ => r_st σ (by walk_at "rm") fun s σ => ?_
          refine wpAny_execs_cons (wpAny_If (wpAny_isTrue_Compare1 (r_loc σ (by walk_at "mm") (r_int σ fun t1 s σ => r_eq (wpAny_truthy_bool ?_)))))
          by_cases h0 : i = 0
          · have e0 : (((i : Nat) : Int) == 0) = true := by rw [h0]; rfl
            rw [e0]
            simp only [if_true]
            refine wpAny_execs_cons (wpAny_If (wpAny_isTrue_Compare1 (r_fn σ (by k_is) (by k_is) (args_cons (r_loc σ (by walk_at "mm") (args_nil ⟨σ.keep, sifmt σ ρ fun t2 s σ => r_loc σ (by walk_at "mm") (r_eq (wpAny_truthy_bool ?_))⟩))))))
            have ep : fmP m i bc.1 = (Builtin.bitAnd m 61440 == bc.1) := by unfold fmP; rw [if_pos h0]
            cases hb : (Builtin.bitAnd m 61440 == bc.1) with
            | true =>
              simp only [if_true]
              refine wpAny_execs_cons (wpAny_Expr (r_meth σ (by walk_at "mm") PySem.F.slot_list_append PySem.F.type_list_append (r_loc σ (by walk_at "mm") ⟨rfl, rfl⟩) (r_with1 (r_loc σ (by walk_at "mm") (r_append σ (by walk_at "up") (by show ps.length ≤ 2 ^ 24; omega) fun s σ => ?_)))))
              dsimp only
              refine wpAny_execs_cons (wpAny_Break ?_)
              dsimp only
              exact ⟨trivial, bc.2, tc, (fmAt_some (pick_take hCj hbc (ep.trans hb))).symm, (σ.dropW).loc (by walk_at "sub")⟩
            | false =>
              simp only [Bool.false_eq_true, if_false]
              refine wpAny_execs_nil ?_
              dsimp only
              refine wpAny_execs_nil ?_
              dsimp only
              refine wpAny_execs_nil ?_
              exact ⟨(), pick_next hCj hbc (ep.trans hb), σ.loc (by walk_at "sub")⟩
          · have e0 : (((i : Nat) : Int) == 0) = false := by
              rw [beq_eq_false_iff_ne]; omega
            rw [e0]
            simp only [Bool.false_eq_true, if_false]
            refine wpAny_execs_cons (wpAny_If (wpAny_isTrue_Compare1 (wpAny_BinOp (r_loc σ (by walk_at "mm") (r_loc σ (by walk_at "mm") (r_and σ fun t2 s σ => r_loc σ (by walk_at "mm") (r_eq (wpAny_truthy_bool ?_))))))))
            have ep : fmP m i bc.1 = (Builtin.bitAnd m bc.1 == bc.1) := by unfold fmP; rw [if_neg h0]
            cases hb : (Builtin.bitAnd m bc.1 == bc.1) with
            | true =>
              simp only [if_true]
              refine wpAny_execs_cons (wpAny_Expr (r_meth σ (by walk_at "mm") PySem.F.slot_list_append PySem.F.type_list_append (r_loc σ (by walk_at "mm") ⟨rfl, rfl⟩) (r_with1 (r_loc σ (by walk_at "mm") (r_append σ (by walk_at "up") (by show ps.length ≤ 2 ^ 24; omega) fun s σ => ?_)))))
              dsimp only
              refine wpAny_execs_cons (wpAny_Break ?_)
              dsimp only
              exact ⟨trivial, bc.2, tc, (fmAt_some (pick_take hCj hbc (ep.trans hb))).symm, (σ.dropW).loc (by walk_at "sub")⟩
            | false =>
              simp only [Bool.false_eq_true, if_false]
              refine wpAny_execs_nil ?_
              dsimp only
              refine wpAny_execs_nil ?_
              dsimp only
              refine wpAny_execs_nil ?_
              exact ⟨(), pick_next hCj hbc (ep.trans hb), σ.loc (by walk_at "sub")⟩
        · rintro _ s hCn σ
          have hno : pick (fmP m i) row = none := by rw [hRow.len, List.take_length] at hCn; exact hCn
          refine wpAny_execs_cons (wpAny_If (wpAny_isTrue_Compare1 (r_loc σ (by walk_at "mm") (r_int σ fun t1 s σ => r_eq (wpAny_truthy_bool ?_)))))
          by_cases h0 : i = 0
          · have e0 : (((i : Nat) : Int) == 0) = true := by rw [h0]; rfl
            rw [e0]
            simp only [if_true]
            refine wpAny_execs_cons (wpAny_Expr (r_meth σ (by walk_at "mm") PySem.F.slot_list_append PySem.F.type_list_append (r_loc σ (by walk_at "mm") ⟨rfl, rfl⟩) (r_with1 (r_str σ fun t3 s σ => r_append σ (by walk_at "up") (by show ps.length ≤ 2 ^ 24; omega) fun s σ => ?_))))
            dsimp only
            refine wpAny_execs_nil ?_
            dsimp only
            refine wpAny_execs_nil ⟨rfl, "?", t3, by rw [fmAt_none hno, if_pos h0], σ.loc (by walk_at "sub")⟩
          · have e0 : (((i : Nat) : Int) == 0) = false := by
              rw [beq_eq_false_iff_ne]; omega
            rw [e0]
            simp only [Bool.false_eq_true, if_false]
            refine wpAny_execs_cons (wpAny_Expr (r_meth σ (by walk_at "mm") PySem.F.slot_list_append PySem.F.type_list_append (r_loc σ (by walk_at "mm") ⟨rfl, rfl⟩) (r_with1 (r_str σ fun t3 s σ => r_append σ (by walk_at "up") (by show ps.length ≤ 2 ^ 24; omega) fun s σ => ?_))))
            dsimp only
            refine wpAny_execs_nil ?_
            dsimp only
            refine wpAny_execs_nil ⟨rfl, "-", t3, by rw [fmAt_none hno, if_neg h0], σ.loc (by walk_at "sub")⟩
      · rintro s ⟨c, tc, e, σ⟩
        exact wpAny_execs_nil ⟨(_, _), fin c tc e, σ⟩
    · rintro ⟨ps, n⟩ s hC σ
      refine wpAny_execs_nil ⟨rfl, ps, n, ?_, σ⟩
      rw [hI.len] at hC
      simpa using hC
  · rintro s ⟨ps, n, hC, σ⟩
    refine wpAny_execs_cons (wpAny_Return_some (r_methS PySem.F.slot_str_join PySem.F.type_str_join (r_str σ fun t1 s σ => ⟨_, _, rfl, r_with1 (r_loc σ (by walk_at "mm") (r_join σ (by walk_at "mm") hC ?_ fun t2 s σ => k t2 s (σ.drop1.back nL (by walk_at "pick"))))⟩)))
    obtain ⟨z1, z2⟩ := fmFrom_len m fmTab 0 fmTab_one
    rw [z1, z2]
    decide
end Mine
end
section
open PySem PySem.W PyProof.Rows PySem.Calls
set_option maxRecDepth 100000
set_option maxHeartbeats 4000000
namespace Mine
local macro_rules | `(tactic| walk_at "mm") => `(tactic| first | exact List.Mem.head _ | (refine List.Mem.tail _ ?_; walk_at "mm") | (refine List.mem_append_right _ ?_; walk_at "mm"))
local macro_rules | `(tactic| walk_at "nd") => `(tactic| (simp only [List.map_cons, List.map_nil]; decide))
local macro_rules | `(tactic| walk_at "rm") => `(tactic| first | exact Rm.nil | ((with_reducible refine' Rm.hit ?rmb); (case rmb => walk_at "rm")) | (refine' Rm.skip ?rma ?rmb; (case rma => decide); (case rmb => walk_at "rm")))
local macro_rules | `(tactic| walk_at "up") => `(tactic| first | (with_reducible exact Up.head) | (refine' Up.tail ?upa; (case upa => walk_at "up")) | (refine' Up.app ?upa _; (case upa => walk_at "up")))
local macro_rules | `(tactic| walk_at "pick") => `(tactic| first | (with_reducible exact Pick.head) | (refine' Pick.tail ?pka; (case pka => walk_at "pick")) | (refine' Pick.app ?pka _; (case pka => walk_at "pick")))
local macro_rules | `(tactic| walk_at "sub") => `(tactic| first | exact List.forall_mem_nil _ | (refine List.forall_mem_cons.mpr ⟨?sba, ?sbb⟩; (case sba => walk_at "mm"); (case sbb => walk_at "sub")))

theorem pat1 {w : World} : Pat (hd.heap_39 w.params) 64 re1 :=
  ⟨⟨_, 63, _, _, _, _, _, _, _, _, by k_is, rfl, rfl, rfl, by k_is, by decide +kernel, rfl⟩⟩
theorem pat2 {w : World} : Pat (hd.heap_39 w.params) 69 re2 :=
  ⟨⟨_, 68, _, _, _, _, _, _, _, _, by k_is, rfl, rfl, rfl, by k_is, by decide +kernel, rfl⟩⟩
theorem r_with2 {prog : Program} {w : World} {A : Around} {E : Value → Shared → Prop} {s : Shared} {env : Env} {pos : Pos} {id : String} {v : Value} {e e2 : Expr} {Q : Value → Shared → Prop} (h : wpAny (model prog w) A (eval e env) (fun x s₁ => wpAny (model prog w) A (eval e2 env) (fun y s₂ => wpAny (model prog w) A (call (.builtin id) [v, x, y]) Q E s₂) E s₁) E s)
    (hp : (backTo pos (starEach [e, e2] env)).any (·.1) = false := by rfl) (hs : starEach [e, e2] env = [(false, eval e env), (false, eval e2 env)] := by rfl) :
    wpAny (model prog w) A (callWith pos (.builtin id) [v] (backTo pos (starEach [e, e2] env)) []) Q E s := by
  refine callWith_builtin hp ?_
  rw [hs]
  exact evalArgs_plain (spliced_cons (wpAny_mono h (fun x s₁ h₁ => spliced_cons (wpAny_mono h₁ (fun y s₂ h₂ => spliced_nil h₂) fun _ _ x => x)) fun _ _ x => x))
/-- the method sub of a pattern -/
theorem r_methP {prog : Program} {w : World} {A : Around} {E : Value → Shared → Prop} {s : Shared} {env : Env} {K : Frag} {code : Array Nat} {p : Addr} {o : Expr} {apos pos : Pos} {args : List Expr} {Q : Value → Shared → Prop} {pl : Sem Bool} (hp : Pat K p code)
    (h : wpAny (model prog w) A (eval o env) (fun v s₁ => K.In s₁.heap ∧ v = .ref p ∧ wpAny (model prog w) A (callWith pos (.builtin "re.Pattern.sub") [.ref p] (backTo pos (starEach args env)) []) Q E s₁) E s)
    (he : eval (.Call (.Attribute o "sub" apos) args [] pos) env = (do
      let ov ← eval o env
      standAt apos.atName
      let (f, first) ← holding [ov] (getMethod ov "sub" pl)
      callWith pos f first (backTo pos (starEach args env)) []) := by rfl) :
    wpAny (model prog w) A (eval (.Call (.Attribute o "sub" apos) args [] pos) env) Q E s := by
  refine MethodCall_ (wpAny_mono h (fun v s₁ h₁ => ?_) fun _ _ x => x) he
  obtain ⟨X, rfl, h₂⟩ := h₁
  obtain ⟨fs, ct, its, n, dd, sl, t2, t6, _, _, h1, _⟩ := hp
  exact getMethod_builtin ⟨_, X _ _ h1, rfl⟩ attrs_pat slot_sub type_sub (fun _ e => by cases e; exact ⟨_, X _ _ h1, rfl⟩) h₂
theorem quote {w : World} {mg mb : Str → Option Value} {os : OsState} {gs : Array GenState} {g : Heap} {A : Around} {L : Addr} {l : List (Str × Value)} {news : List (Addr × Obj)} {s : Shared} {Q E : Value → Shared → Prop} {x : Str} {t : Tok}
    (σ : Sx (hd.heap_39 w.params) mg mb os gs g L l news s) (ρ : Room A 1) (hx : x.cps.size ≤ 10000) (hx2 : (subs nxt2 "\r\n" x).cps.size ≤ 100000) (k : ∀ t s', Sx (hd.heap_39 w.params) mg mb os gs g L l news s' → Q (.str (qd x) t) s') :
    wpAny (model P1 w) A (call (.ref 76) [.str x t]) Q E s := by
  refine r_call (binds := [("data", .str x t)]) σ ρ (by k_is) (by k_is) (BindsTo.of_eq rfl) (locs rfl) (by walk_at "nd") (fun L' oL s nL ρ σ => ?_) rfl rfl rfl (by decide)
  refine wpAny_execs_cons (wpAny_Return_some ?_)
  refine r_methP pat1 (r_glob σ (by k_is) ⟨(σ.t.sub σ.keep).x, rfl, ?_⟩)
  refine r_with2 (r_str σ fun t1 s σ => ?_)
  refine r_methP pat2 (r_glob σ (by k_is) ⟨(σ.t.sub σ.keep).x, rfl, ?_⟩)
  refine r_with2 (r_glob σ (by k_is) (r_loc σ (by walk_at "mm") ?_))
  refine r_subs σ pat2 fnd2 (by decide) (by decide +kernel) (by omega) fun t2 s σ => ?_
  exact r_subs σ pat1 fnd1 (by decide) (by decide +kernel) hx2 fun t3 s σ => k _ _ (σ.back nL (by walk_at "pick"))
end Mine
end
section
open PySem PySem.W PyProof.Rows PySem.Calls PySem.SeqAt
open AutoSeq1 (wpAny_loadPart')
open MeetsSeq MeetsSeq2 MeetsSeq3
set_option maxRecDepth 100000
namespace Mine
/-- rows of dots, one list before the other -/
def ltR : List Nat → List Nat → Bool
  | [], [] => false
  | [], _ :: _ => true
  | _ :: _, [] => false
  | a :: r, b :: q => if a = b then ltR r q else decide (a < b)
theorem rep_lt : ∀ a b : Nat, decide (List.replicate a 46 < List.replicate b 46) = decide (a < b)
  | 0, 0 => by decide
  | 0, b + 1 => by simp [List.replicate_succ]
  | a + 1, 0 => by simp [List.replicate_succ]
  | a + 1, b + 1 => by
    have ih := rep_lt a b
    have e : (List.replicate (a + 1) 46 < List.replicate (b + 1) 46) ↔ (List.replicate a 46 < List.replicate b 46) := by
      rw [List.replicate_succ, List.replicate_succ, List.cons_lt_cons_iff]; simp
    rw [decide_eq_decide] at ih ⊢
    rw [e, ih]; omega
theorem dot_inj {a b : Nat} (h : dotS a = dotS b) : a = b := by
  have h1 : (List.replicate a 46).toArray = (List.replicate b 46).toArray := congrArg Str.cps h
  have := congrArg Array.size h1
  simpa using this
theorem dot_beq (a b : Nat) : (dotS a == dotS b) = decide (a = b) := by
  by_cases h : a = b
  · subst h; simp
  · rw [decide_eq_false h, beq_eq_false_iff_ne]; exact fun e => h (dot_inj e)
def dots (d : List Nat) : List Str := d.map dotS
theorem strs_at : ∀ {vs : List Value} {d : List Nat}, StrsAre vs (dots d) → ∀ (i : Nat), (i < d.length → ∃ t, vs[i]? = some (.str (dotS (d.getD i 0)) t)) ∧ (d.length ≤ i → vs[i]? = none)
  | _, [], h, i => by cases h; simp
  | _, a :: d, h, i => by
    cases h with
    | cons y t h =>
      cases i with
      | zero => exact ⟨fun _ => ⟨t, rfl⟩, fun h => by simp at h⟩
      | succ i =>
        have ih := strs_at h i
        exact ⟨fun h => by simpa using ih.1 (by simpa using h), fun h => by simpa using ih.2 (by simpa using h)⟩
theorem lt_loopAt (l b : Addr) (xs ys : List Value) (ds es : List Nat) (n n2 : Nat) (dd dd2 : Option Addr) (sl sl2 : Array (Option Value)) (hx : StrsAre xs (dots ds)) (hy : StrsAre ys (dots es)) (k : Nat) :
    ∀ i : Nat, ds.length - i = k → i ≤ ds.length → i ≤ es.length → Meets (Builtin.«list.__eq__.loop» ⟨[.ref l, .ref b, rawInt i, rawInt 0], []⟩)
      (fun A R s => s.heap.get? l = some { cls := .type "list", dict := dd, data := .seq xs.toArray n, slots := sl } ∧ s.heap.get? b = some { cls := .type "list", dict := dd2, data := .seq ys.toArray n2, slots := sl2 } ∧
        R (.ok (.ret (.bool (ltR (ds.drop i) (es.drop i))))) s) := by
  have ex : xs.length = ds.length := by rw [strs_len hx]; simp [dots]
  have ey : ys.length = es.length := by rw [strs_len hy]; simp [dots]
  induction k with
  | zero =>
    intro i hk hi hi2 prog w A R s h
    obtain ⟨hp, g, d, tk, os⟩ := s; obtain ⟨hl, hb, h⟩ := h
    wp_walk using wpAny_loadPart' hl, wpAny_loadPart' hb
    have hi1 : xs.toArray[((i : Nat) : Int).toNat]? = none := by simp; omega
    have hd : ds.drop i = [] := by simp; omega
    rw [hd] at h
    rw [hi1]
    wp_walk using wpAny_loadPart' hl, wpAny_loadPart' hb
    show R (.ok (.ret (.bool (decide (xs.toArray.size < ys.toArray.size))))) _
    have e : decide (xs.toArray.size < ys.toArray.size) = ltR [] (es.drop i) := by
      rw [List.size_toArray, List.size_toArray, ex, ey]
      by_cases hlt : i < es.length
      · rw [List.drop_eq_getElem_cons hlt, decide_eq_true (by omega)]; rfl
      · rw [List.drop_of_length_le (by omega), decide_eq_false (by omega)]; rfl
    rw [e]; exact h
  | succ k ih =>
    intro i hk hi hi2 prog w A R s h
    obtain ⟨hp, g, d, tk, os⟩ := s; obtain ⟨hl, hb, h⟩ := h
    wp_walk using wpAny_loadPart' hl, wpAny_loadPart' hb
    have hlt : i < ds.length := by omega
    obtain ⟨t1, h1⟩ := (strs_at hx i).1 hlt
    have hi1 : xs.toArray[((i : Nat) : Int).toNat]? = some (.str (dotS (ds.getD i 0)) t1) := by simpa using h1
    have hc : ((i : Int) + 1) = ((i + 1 : Nat) : Int) := by push_cast; rfl
    by_cases hlt2 : i < es.length
    · obtain ⟨t2, h2⟩ := (strs_at hy i).1 hlt2
      have hi2' : ys.toArray[((i : Nat) : Int).toNat]? = some (.str (dotS (es.getD i 0)) t2) := by simpa using h2
      rw [hi1, hi2']
      refine wpAny_bind (EqAt.str_str (A := A.in1) _ t1 _ t2 prog w _ _ ?_)
      rw [dot_beq]
      have e1 : ds.drop i = ds.getD i 0 :: ds.drop (i + 1) := by rw [List.drop_eq_getElem_cons hlt]; simp [hlt]
      have e2 : es.drop i = es.getD i 0 :: es.drop (i + 1) := by rw [List.drop_eq_getElem_cons hlt2]; simp [hlt2]
      rw [e1, e2, ltR] at h
      by_cases hab : ds.getD i 0 = es.getD i 0
      · rw [if_pos hab] at h
        rw [decide_eq_true hab]
        wp_walk
        rw [hc]
        exact ⟨plainId_quiet plain_eq_loop _, codeAny_builtin entry_eq_loop (by
          rw [Around.under_plainId plain_eq_loop _]
          exact ih (i + 1) (by omega) (by omega) (by omega) prog w A R _ ⟨hl, hb, h⟩)⟩
      · rw [if_neg hab] at h
        rw [decide_eq_false hab]
        wp_walk using wpAny_loadPart' hl, wpAny_loadPart' hb
        rw [hi1, hi2']
        refine wpAny_bind (m := richCompare .Lt (.str (dotS (ds.getD i 0)) t1) (.str (dotS (es.getD i 0)) t2)) ?_
        refine PyProof.Rows.lt_str ?_
        refine wpAny_pure ?_
        have e3 : decide ((dotS (ds.getD i 0)).cps.toList < (dotS (es.getD i 0)).cps.toList) = decide (ds.getD i 0 < es.getD i 0) := rep_lt _ _
        show R (.ok (.ret (.bool (decide ((dotS (ds.getD i 0)).cps.toList < (dotS (es.getD i 0)).cps.toList))))) _
        rw [e3]; exact h
    · have hi2' : ys.toArray[((i : Nat) : Int).toNat]? = none := by simp; omega
      rw [hi1, hi2']
      wp_walk using wpAny_loadPart' hl, wpAny_loadPart' hb
      show R (.ok (.ret (.bool (decide (xs.toArray.size < ys.toArray.size))))) _
      have e : decide (xs.toArray.size < ys.toArray.size) = ltR (ds.drop i) (es.drop i) := by
        rw [List.size_toArray, List.size_toArray, ex, ey, List.drop_of_length_le (l := es) (by omega), List.drop_eq_getElem_cons hlt, decide_eq_false (by omega)]; rfl
      rw [e]; exact h
theorem list_ltAt (l b : Addr) (xs ys : List Value) (ds es : List Nat) (n n2 : Nat) (dd dd2 : Option Addr) (sl sl2 : Array (Option Value)) (hx : StrsAre xs (dots ds)) (hy : StrsAre ys (dots es)) :
    Meets (Builtin.«list.__lt__» ⟨[.ref l, .ref b], []⟩)
      (fun A R s => s.heap.get? l = some { cls := .type "list", dict := dd, data := .seq xs.toArray n, slots := sl } ∧ s.heap.get? b = some { cls := .type "list", dict := dd2, data := .seq ys.toArray n2, slots := sl2 } ∧
        R (.ok (.ret (.bool (ltR ds es)))) s) := by
  intro prog w A R s h
  obtain ⟨hp, g, d, tk, os⟩ := s; obtain ⟨hl, hb, h⟩ := h
  have f3 := AutoSeq1.sub_list_list
  wp_walk using wpAny_loadPart' hl, wpAny_loadPart' hb
  exact ⟨plainId_quiet plain_eq_loop _, codeAny_builtin entry_eq_loop (by
    rw [Around.under_plainId plain_eq_loop _]
    exact lt_loopAt l b xs ys ds es n n2 dd dd2 sl sl2 hx hy _ 0 rfl (Nat.zero_le _) (Nat.zero_le _) prog w A R _ ⟨hl, hb, h⟩)⟩
end Mine
end
section
open PySem PySem.W PyProof.Rows PySem.Calls PySem.SeqAt
open AutoSeq1 (wpAny_loadPart')
open MeetsSeq MeetsSeq2 MeetsSeq3
set_option maxRecDepth 100000
namespace Mine
def ltI (x y : List Nat × Int) : Bool := if x.1 = y.1 then decide (x.2 < y.2) else ltR x.1 y.1
theorem readsAll_strs {h : Heap} : ∀ {vs : List Value} {xs : List Str}, StrsAre vs xs → ReadsAll h vs (xs.map PyData.str) []
  | _, _, .nil => .nil
  | _, _, .cons y t r => by
    have := ReadsAll.cons (Reads.str (h := h) y t) (readsAll_strs (h := h) r)
    simpa using this
theorem reads_strs {h : Heap} {a : Addr} {vs : List Value} {xs : List Str} (hl : h.IsList a vs.toArray) (hi : StrsAre vs xs) : Reads h (.ref a) (.list (xs.map PyData.str)) [a] := by
  obtain ⟨o, ho, hc, n, hd⟩ := hl
  exact Reads.list ho hc hd (by simpa using readsAll_strs hi)
theorem dot_ok (n : Nat) : PyData.strOk (dotS n) = true := by
  unfold PyData.strOk dotS
  rw [Array.all_eq_true']
  intro c hc
  have : c = 46 := by
    have := List.mem_toArray.mp hc
    exact List.eq_of_mem_replicate this
  subst this; decide
theorem canLay_strs : ∀ d : List Nat, PyData.canLayAll0 ((dots d).map PyData.str) = true
  | [] => by simp [PyData.canLayAll0, dots]
  | n :: r => by
    have := canLay_strs r
    simp only [dots, List.map_cons] at this ⊢
    simp only [PyData.canLayAll0, PyData.canLay0, dot_ok, Bool.true_and]
    exact this
theorem depth_strs : ∀ xs : List Str, PyData.depthAll (xs.map PyData.str) = 0
  | [] => by simp [PyData.depthAll]
  | n :: r => by simp [PyData.depthAll, PyData.depth, depth_strs r]
theorem eqv_strs : ∀ xs ys : List Str, PyData.eqvAll (xs.map PyData.str) (ys.map PyData.str) = decide (xs = ys)
  | [], [] => by simp [PyData.eqvAll]
  | [], _ :: _ => by simp [PyData.eqvAll]
  | _ :: _, [] => by simp [PyData.eqvAll]
  | n :: r, k :: q => by
    simp only [List.map_cons, PyData.eqvAll, PyData.eqv, eqv_strs r q]
    by_cases h : n = k <;> simp [h]
theorem dots_inj : ∀ {d e : List Nat}, dots d = dots e → d = e
  | [], [], _ => rfl
  | [], _ :: _, h => by simp [dots] at h
  | _ :: _, [], h => by simp [dots] at h
  | a :: d, b :: e, h => by
    simp only [dots, List.map_cons, List.cons.injEq] at h
    rw [dot_inj h.1, dots_inj h.2]
theorem eq_rows {A : Around} {s : Shared} {a b : Addr} {vs us : List Value} {d e : List Nat} (hl : s.heap.IsList a vs.toArray) (hi : StrsAre vs (dots d)) (hl' : s.heap.IsList b us.toArray) (hi' : StrsAre us (dots e)) (hu : A.units + 64 < cLine) :
    EqAt A s (.ref a) (.ref b) (decide (d = e)) := by
  have := eqAt_reads (.list ((dots d).map PyData.str)) (.list ((dots e).map PyData.str)) A s _ _ _ _ (reads_strs hl hi) (reads_strs hl' hi') (by simp only [PyData.canLay0]; exact canLay_strs _) (by simp only [PyData.canLay0]; exact canLay_strs _) (by simp only [PyData.depth, depth_strs]; omega)
  have e1 : PyData.eqv (.list ((dots d).map PyData.str)) (.list ((dots e).map PyData.str)) = decide (d = e) := by
    simp only [PyData.eqv, eqv_strs]
    by_cases h : d = e
    · subst h; simp
    · rw [decide_eq_false h, decide_eq_false fun z => h (dots_inj z)]
  rw [e1] at this
  exact this
theorem lt_rows {prog : Program} {w : World} {A : Around} {E : Value → Shared → Prop} {s : Shared} {a b : Addr} {vs us : List Value} {d e : List Nat} {Q : Value → Shared → Prop} (hl : s.heap.IsList a vs.toArray) (hi : StrsAre vs (dots d)) (hl' : s.heap.IsList b us.toArray) (hi' : StrsAre us (dots e)) (hu : A.units + 64 < cLine)
    (h : Q (.bool (ltR d e)) s) : wpAny (model prog w) A (richCompare .Lt (.ref a) (.ref b)) Q E s := by
  obtain ⟨o1, ho1, hc1, n1, hd1⟩ := hl
  obtain ⟨o2, ho2, hc2, n2, hd2⟩ := hl'
  obtain ⟨c1, dd1, dt1, sl1⟩ := o1
  obtain ⟨c2, dd2, dt2, sl2⟩ := o2
  simp only at hc1 hd1 hc2 hd2
  subst hc1 hd1 hc2 hd2
  exact richCompare_meets_room (T := "list") ⟨_, ho1, rfl⟩ ⟨_, ho2, rfl⟩ PySem.F.slot_list_lt PySem.F.entry_list_lt (PySem.F.args_list_lt_2 _ _) (list_ltAt a b vs us d e n1 n2 dd1 dd2 sl1 sl2 hi hi') ⟨ho1, ho2, by simp, h⟩ (by omega)
theorem tup_ltAt (a b : Addr) (R1 R2 : Addr) (w1 w2 : Int) (t1 t2 : Tok) (items items2 : Array Value) (hI : items.toList = [.ref R1, .int w1 t1]) (hI2 : items2.toList = [.ref R2, .int w2 t2]) (n n2 : Nat) (dd dd2 : Option Addr) (sl sl2 : Array (Option Value)) (vs us : List Value) (d e : List Nat) (hi : StrsAre vs (dots d)) (hi' : StrsAre us (dots e)) :
    Meets (Builtin.«tuple.__lt__» ⟨[.ref a, .ref b], []⟩)
      (fun A R s => s.heap.get? a = some { cls := .type "tuple", dict := dd, data := .seq items n, slots := sl } ∧ s.heap.get? b = some { cls := .type "tuple", dict := dd2, data := .seq items2 n2, slots := sl2 } ∧
        s.heap.IsList R1 vs.toArray ∧ s.heap.IsList R2 us.toArray ∧ A.units + 80 < cLine ∧ R (.ok (.ret (.bool (ltI (d, w1) (e, w2))))) s) :=
  .of_wp fun prog w A R s h => by
    obtain ⟨hp, g, dr, tk, os⟩ := s; obtain ⟨hl, hb, hr1, hr2, hu, h⟩ := h
    have f2 := AutoSeq1.sub_tuple_tuple
    have hu1 : A.in1.units + 64 < cLine := by
      have e : A.in1.units ≤ A.units + 1 := by first | exact Nat.le_refl _ | exact Nat.le_succ _
      omega
    have hsz : items.size = 2 := by rw [← Array.length_toList, hI]; rfl
    have hsz2 : items2.size = 2 := by rw [← Array.length_toList, hI2]; rfl
    wp_walk using wpAny_loadPart' hl, wpAny_loadPart' hb, wpAny_forIn_list _ (fun rest b s' => b.1 = none ∧ s' = ⟨hp, g, dr, tk, os⟩ ∧ ((rest = [(Value.ref R1, Value.ref R2), (Value.int w1 t1, Value.int w2 t2)]) ∨ (rest = [(Value.int w1 t1, Value.int w2 t2)] ∧ d = e) ∨ (rest = [] ∧ d = e ∧ w1 = w2))) _
    case turn =>
      rintro ⟨y, x⟩ rest b s' ⟨hb', rfl, hz⟩
      rcases hz with hz | ⟨hz, hde⟩ | ⟨hz, _⟩
      · cases hz
        refine wpAny_bind (eq_rows hr1 hi hr2 hi' hu1 prog w _ _ ?_)
        by_cases hde : d = e
        · rw [decide_eq_true hde]
          wp_walk
          exact ⟨rfl, rfl, .inr (.inl ⟨rfl, hde⟩)⟩
        · rw [decide_eq_false hde]
          have e1 : ltI (d, w1) (e, w2) = ltR d e := by unfold ltI; rw [if_neg hde]
          rw [e1] at h
          show wpAny _ _ (rule _ >>= _) _ _ _
          refine wpAny_bind (wpAny_rule (wpAny_bind (lt_rows hr1 hi hr2 hi' hu1 ?_)))
          wp_walk
          exact ⟨_, rfl, h⟩
      · cases hz
        have e1 : ltI (d, w1) (e, w2) = decide (w1 < w2) := by unfold ltI; rw [if_pos hde]
        refine wpAny_bind (EqAt.int_int (A := A.in1) w1 t1 w2 t2 prog w _ _ ?_)
        by_cases hw : w1 = w2
        · rw [show (w1 == w2) = true by simpa using hw]
          wp_walk
          exact ⟨rfl, rfl, .inr (.inr ⟨rfl, hde, hw⟩)⟩
        · rw [show (w1 == w2) = false by simpa using hw]
          rw [e1] at h
          show wpAny _ _ (rule _ >>= _) _ _ _
          refine wpAny_bind (wpAny_rule (wpAny_bind ?_))
          show wpAny _ _ (compareOp .Lt (.int w1 t1) (.int w2 t2)) _ _ _
          refine wpAny_lt_int ?_
          wp_walk
          exact ⟨_, rfl, h⟩
      · cases hz
    case fin =>
      rintro ⟨b1, b2⟩ s' ⟨hb', rfl, hz⟩
      simp only at hb'
      subst hb'
      rcases hz with hz | ⟨hz, _⟩ | ⟨_, hde, hw⟩
      · cases hz
      · cases hz
      · have e1 : ltI (d, w1) (e, w2) = false := by unfold ltI; rw [if_pos hde]; simp [hw]
        rw [e1] at h
        wp_walk
        exact ⟨_, rfl, by simpa [Builtin.Tuple.tupleCompareSizes, hsz, hsz2] using h⟩
    case h =>
      refine ⟨rfl, rfl, .inl ?_⟩
      rw [hI, hI2]; rfl
end Mine
end
section
open PySem PySem.W PyProof.Rows PySem.Calls PySem.SeqAt
set_option maxRecDepth 100000
namespace Mine
/-- a list of rows of dots -/
def IsRows (g : Heap) (v : Value) (d : List Nat) : Prop := ∃ R ss, v = .ref R ∧ g.IsList R (List.toArray ss) ∧ StrsAre ss (dots d)
/-- a diagram with its ways -/
def IsItem (g : Heap) (v : Value) (x : List Nat × Int) : Prop := ∃ T R t, v = .ref T ∧ g.IsTuple T #[R, .int x.2 t] ∧ IsRows g R x.1
theorem IsRows.sub {g g' : Heap} {v : Value} {d : List Nat} (h : IsRows g v d) (k : Sub g g') : IsRows g' v d := by
  obtain ⟨R, ss, e, hl, hs⟩ := h
  exact ⟨R, ss, e, hl.at fun o e => k _ _ e, hs⟩
theorem IsItem.sub {g g' : Heap} {v : Value} {x : List Nat × Int} (h : IsItem g v x) (k : Sub g g') : IsItem g' v x := by
  obtain ⟨T, R, t, e, hl, hs⟩ := h
  exact ⟨T, R, t, e, hl.at fun o e => k _ _ e, hs.sub k⟩
theorem strs_uniq : ∀ {vs : List Value} {xs ys : List Str}, StrsAre vs xs → StrsAre vs ys → xs = ys
  | _, _, _, .nil, k => by cases k; rfl
  | _, _, _, .cons y t h, k => by
    cases k with
    | cons _ _ k => rw [strs_uniq h k]
theorem IsRows.uniq {g : Heap} {v : Value} {d e : List Nat} (h : IsRows g v d) (k : IsRows g v e) : d = e := by
  obtain ⟨R, ss, rfl, ⟨o, ho, _, n, hd⟩, hs⟩ := h
  obtain ⟨R', ss', e', ⟨o', ho', _, n', hd'⟩, hs'⟩ := k
  cases e'
  rw [ho] at ho'; cases ho'
  rw [hd] at hd'
  injection hd' with h1 _
  have : ss = ss' := by simpa using congrArg Array.toList h1
  subst this
  exact dots_inj (strs_uniq hs hs')
theorem IsItem.uniq {g : Heap} {v : Value} {x y : List Nat × Int} (h : IsItem g v x) (k : IsItem g v y) : x = y := by
  obtain ⟨T, R, t, rfl, ⟨o, ho, _, n, hd⟩, hs⟩ := h
  obtain ⟨T', R', t', e', ⟨o', ho', _, n', hd'⟩, hs'⟩ := k
  cases e'
  rw [ho] at ho'; cases ho'
  rw [hd] at hd'
  injection hd' with h1 _
  have h2 : [R, Value.int x.2 t] = [R', Value.int y.2 t'] := congrArg Array.toList h1
  injection h2 with h3 h4
  injection h4 with h5 _
  injection h5 with h6 _
  subst h3
  exact Prod.ext (hs.uniq hs') h6
open Classical in
noncomputable def itF (g : Heap) (v : Value) : List Nat × Int := if h : ∃ x, IsItem g v x then h.choose else ([], 0)
theorem itF_eq {g : Heap} {v : Value} {x : List Nat × Int} (h : IsItem g v x) : itF g v = x := by
  have hx : ∃ x, IsItem g v x := ⟨x, h⟩
  unfold itF
  rw [dif_pos hx]
  exact hx.choose_spec.uniq h
theorem itF_none (g : Heap) : itF g .none = ([], 0) := by
  unfold itF
  rw [dif_neg]
  rintro ⟨x, T, R, t, e, _⟩
  cases e
def ItP (g : Heap) (v : Value) : Prop := ∃ x, IsItem g v x
theorem itF_sub {g g' : Heap} (k : Sub g g') {v : Value} (h : ItP g v) : itF g' v = itF g v := by
  obtain ⟨x, hx⟩ := h
  rw [itF_eq hx, itF_eq (hx.sub k)]
section
variable {prog : Program} {w : World} {K : Frag} {mg mb : Str → Option Value} {os : OsState} {gs : Array GenState} {g : Heap}
theorem cmpI {x y : Value} (hx : ItP g x) (hy : ItP g y) : Cmp prog w K mg mb os gs g (fun a b => ltI (itF g a) (itF g b)) x y := by
  obtain ⟨⟨d, w1⟩, hx⟩ := hx
  obtain ⟨⟨e, w2⟩, hy⟩ := hy
  intro A L l news s Q E ρ σ h
  have hq := h s σ
  clear h
  dsimp only at hq
  rw [itF_eq hx, itF_eq hy] at hq
  obtain ⟨T, R, t, rfl, hT, R1, ss, rfl, hl, hs⟩ := hx.sub σ.keep
  obtain ⟨T', R', t', rfl, hT', R1', ss', rfl, hl', hs'⟩ := hy.sub σ.keep
  obtain ⟨o1, ho1, hc1, n1, hd1⟩ := hT
  obtain ⟨o2, ho2, hc2, n2, hd2⟩ := hT'
  obtain ⟨c1, dd1, dt1, sl1⟩ := o1
  obtain ⟨c2, dd2, dt2, sl2⟩ := o2
  simp only at hc1 hd1 hc2 hd2
  subst hc1 hd1 hc2 hd2
  show wpAny _ _ (richCompare .Lt (.ref T) (.ref T')) _ _ _
  exact richCompare_meets_room (T := "tuple") ⟨_, ho1, rfl⟩ ⟨_, ho2, rfl⟩ PySem.F.slot_tuple_lt PySem.F.entry_tuple_lt (PySem.F.args_tuple_lt_2 _ _) (tup_ltAt T T' R1 R1' w1 w2 t t' _ _ rfl rfl n1 n2 dd1 dd2 sl1 sl2 ss ss' d e hs hs') ⟨ho1, ho2, hl, hl', by have := ρ.units; omega, by simp, hq⟩ (by have := ρ.units; omega)
end
end Mine
end
section
open PySem PySem.W PyProof.Rows PySem.Calls PySem.SeqAt
set_option maxRecDepth 100000
namespace Mine
section
variable {prog : Program} {w : World} {A : Around} {E : Value → Shared → Prop}
  {K : Frag} {mg mb : Str → Option Value} {os : OsState} {gs : Array GenState} {g : Heap} {L : Addr} {l l' : List (Str × Value)} {news news' : List (Addr × Obj)} {s : Shared} {env : Env}
/-- a list and a list -/
theorem r_ladd {a b : Addr} {vs us : List Value} {Q : Value → Shared → Prop} (σ : Sx K mg mb os gs g L l news s) (hl : s.heap.IsList a vs.toArray) (hb : s.heap.IsList b us.toArray) (hz : vs.length + us.length ≤ sizeLine)
    (h : ∀ D s', Sx K mg mb os gs g L l ((D, listOf (vs ++ us).toArray 0) :: news) s' → Q (.ref D) s') : wpAny (model prog w) A (binaryOp .Add (.ref a) (.ref b)) Q E s := by
  obtain ⟨o1, ho1, hc1, n1, hd1⟩ := hl
  obtain ⟨o2, ho2, hc2, n2, hd2⟩ := hb
  obtain ⟨c1, dd1, dt1, sl1⟩ := o1
  obtain ⟨c2, dd2, dt2, sl2⟩ := o2
  simp only at hc1 hd1 hc2 hd2
  subst hc1 hd1 hc2 hd2
  have e : vs.toArray ++ us.toArray = (vs ++ us).toArray := by simp
  refine concat_meets ⟨_, ho1, rfl⟩ ⟨_, ho2, rfl⟩ noFill_list_add seq_list_add PySem.F.slot_list_add PySem.F.entry_list_add (PySem.F.args_list_add_2 _ _) (list_addW a b vs.toArray us.toArray n1 n2 dd1 dd2 sl1 sl2 (by simpa using hz)) ⟨ho1, ho2, ?_⟩
  rw [e]
  exact h _ _ (σ.push (listOf (vs ++ us).toArray 0))
theorem r_itemG {value slice : Expr} {a : Addr} {its : Array Value} {k : Int} {u : Tok} {v : Value} {Q : Value → Shared → Prop} (hl : s.heap.IsList a its)
    (h0 : 0 ≤ k) (hf : k < 2 ^ 63) (hx : its[k.toNat]? = some v) (h : Q v s)
    (hs : subscripted slice false (.ref a) (.int k u) = operate [.ref a, .int k u] (getItem (.ref a) (.int k u)) := by with_unfolding_all rfl) :
    wpAny (model prog w) A (subscriptTail value slice (.ref a) (.int k u)) Q E s :=
  tail_any hl.typeIs slot_list_getitem.lookup (wpAny_getItem_list hl h0 hf hx h) hs
theorem r_sgt {x y : Str} {t u : Tok} {Q : Value → Shared → Prop} (h : Q (.bool (decide (y.cps.toList < x.cps.toList))) s) : wpAny (model prog w) A (compareOp .Gt (.str x t) (.str y u)) Q E s := P.gt_str h
end
inductive RowsAre (g : Heap) : List Value → List (List Nat) → Prop
  | nil : RowsAre g [] []
  | cons {v d vs ds} : IsRows g v d → RowsAre g vs ds → RowsAre g (v :: vs) (d :: ds)
theorem RowsAre.sub {g g' : Heap} (k : Sub g g') : ∀ {vs : List Value} {ds : List (List Nat)}, RowsAre g vs ds → RowsAre g' vs ds
  | _, _, .nil => .nil
  | _, _, .cons h r => .cons (h.sub k) (r.sub k)
theorem RowsAre.app {g : Heap} : ∀ {vs us : List Value} {ds es : List (List Nat)}, RowsAre g vs ds → RowsAre g us es → RowsAre g (vs ++ us) (ds ++ es)
  | _, _, _, _, .nil, k => k
  | _, _, _, _, .cons h r, k => .cons h (r.app k)
theorem RowsAre.len {g : Heap} : ∀ {vs : List Value} {ds : List (List Nat)}, RowsAre g vs ds → vs.length = ds.length
  | _, _, .nil => rfl
  | _, _, .cons _ r => congrArg (· + 1) r.len
theorem RowsAre.get {g : Heap} : ∀ {vs : List Value} {ds : List (List Nat)}, RowsAre g vs ds → ∀ (i : Nat) {v : Value}, vs[i]? = some v → ∃ d, ds[i]? = some d ∧ IsRows g v d
  | _, _, .cons h r, 0, v, e => by cases e; exact ⟨_, rfl, h⟩
  | _, _, .cons h r, i + 1, v, e => by simpa using r.get i (by simpa using e)
theorem strs_drop : ∀ {vs : List Value} {xs : List Str}, StrsAre vs xs → ∀ n, StrsAre (vs.drop n) (xs.drop n)
  | _, _, h, 0 => by simpa using h
  | _, _, .nil, n + 1 => by simp; exact .nil
  | _, _, .cons y t h, n + 1 => by simpa using strs_drop h n
theorem strs_take2 : ∀ {vs : List Value} {xs : List Str}, StrsAre vs xs → ∀ n, StrsAre (vs.take n) (xs.take n)
  | _, _, .nil, n => by simp; exact .nil
  | _, _, .cons y t h, 0 => .nil
  | _, _, .cons y t h, n + 1 => .cons y t (strs_take2 h n)
/-- what laying a dot makes -/
def laidAt (d : List Nat) (i : Nat) : List (List Nat) := if i = 0 ∨ d.getD i 0 < d.getD (i - 1) 0 then [d.take i ++ [d.getD i 0 + 1] ++ d.drop (i + 1)] else []
def laidTo (d : List Nat) : Nat → List (List Nat)
  | 0 => [d ++ [1]]
  | i + 1 => laidTo d i ++ laidAt d i
def takenAt (d : List Nat) (i : Nat) : List (List Nat) := if i = d.length - 1 ∨ d.getD (i + 1) 0 < d.getD i 0 then [d.take i ++ (if d.getD i 0 > 1 then [d.getD i 0 - 1] else []) ++ d.drop (i + 1)] else []
def takenTo (d : List Nat) : Nat → List (List Nat)
  | 0 => []
  | i + 1 => takenTo d i ++ takenAt d i
end Mine
end
section
open PySem PySem.W PyProof.Rows PySem.Calls PySem.SeqAt
open AutoSeq1 (wpAny_loadPart')
set_option maxRecDepth 100000
namespace Mine
section
variable {prog : Program} {w : World} {A : Around} {E : Value → Shared → Prop}
  {K : Frag} {mg mb : Str → Option Value} {os : OsState} {gs : Array GenState} {g : Heap} {L : Addr} {l l' : List (Str × Value)} {news news' : List (Addr × Obj)} {s : Shared} {env : Env}
/-- any list against an empty one -/
theorem r_neNil2 {a b : Addr} {vs : List Value} {Q : Value → Shared → Prop} (ρ : Room A 0) (ha : s.heap.IsList a vs.toArray) (hb : s.heap.IsList b #[])
    (h : Q (.bool (!vs.isEmpty)) s) : wpAny (model prog w) A (compareOp .NotEq (.ref a) (.ref b)) Q E s := by
  have hu := ρ.units
  cases vs with
  | nil => exact ke_ne_ints (xs := []) (ys := []) ha hb .nil .nil (by omega) h
  | cons v vs =>
    obtain ⟨o1, ho1, hc1, n1, hd1⟩ := ha
    obtain ⟨o2, ho2, hc2, n2, hd2⟩ := hb
    obtain ⟨c1, dd1, dt1, sl1⟩ := o1
    obtain ⟨c2, dd2, dt2, sl2⟩ := o2
    simp only at hc1 hd1 hc2 hd2
    subst hc1 hd1 hc2 hd2
    show wpAny _ _ (richCompare .NotEq (.ref a) (.ref b)) _ _ _
    exact richCompare_meets_room (T := "list") ⟨_, ho1, rfl⟩ ⟨_, ho2, rfl⟩ PySem.F.slot_list_ne PySem.F.entry_list_ne (PySem.F.args_list_ne_2 _ _) (list_ne_lengthsAt a b _ _ n1 n2 dd1 dd2 sl1 sl2 (by simp)) ⟨ho1, ho2, by simp, h⟩ (by omega)
theorem r_eqRows {a b : Addr} {vs us : List Value} {d e : List Nat} {Q : Value → Shared → Prop} (ρ : Room A 0) (hl : s.heap.IsList a vs.toArray) (hi : StrsAre vs (dots d)) (hl' : s.heap.IsList b us.toArray) (hi' : StrsAre us (dots e))
    (h : Q (.bool (decide (d = e))) s) : wpAny (model prog w) A (compareOp .Eq (.ref a) (.ref b)) Q E s := by
  have hu := ρ.units
  have e1 : PyData.eqv (.list ((dots d).map PyData.str)) (.list ((dots e).map PyData.str)) = decide (d = e) := by
    simp only [PyData.eqv, eqv_strs]
    by_cases h : d = e
    · subst h; simp
    · rw [decide_eq_false h, decide_eq_false fun z => h (dots_inj z)]
  have sh : ∀ d : List Nat, shaped (.list ((dots d).map PyData.str)) = true := fun d => by
    unfold shaped
    rw [Bool.and_eq_true]
    exact ⟨by simp only [PyData.canLay0]; exact canLay_strs _, decide_eq_true (by simp only [PyData.depth, depth_strs]; omega)⟩
  exact eq_dataH (reads_strs hl hi) (reads_strs hl' hi') (sh d) (sh e) (by omega) (by rw [e1]; exact h)
theorem r_tupi {value slice : Expr} {T : Addr} {x y v : Value} {k : Int} {u : Tok} {Q : Value → Shared → Prop} (hT : s.heap.IsTuple T #[x, y]) (hk : (k = 0 ∧ v = x) ∨ (k = 1 ∧ v = y)) (h : Q v s)
    (hs : subscripted slice false (.ref T) (.int k u) = operate [.ref T, .int k u] (getItem (.ref T) (.int k u)) := by with_unfolding_all rfl) :
    wpAny (model prog w) A (subscriptTail value slice (.ref T) (.int k u)) Q E s := by
  refine tail_any hT.typeIs PySem.F.slot_tuple_getitem.lookup ?_ hs
  rcases hk with ⟨rfl, rfl⟩ | ⟨rfl, rfl⟩
  · exact getItem_tuple (k := 0) (j := 0) (x := v) hT (by decide) (by decide) rfl rfl h
  · exact getItem_tuple (k := 1) (j := 1) (x := v) hT (by decide) (by decide) rfl rfl h
theorem r_neg1 {value slice : Expr} {a : Addr} {pv : List Value} {v : Value} {n : Nat} {u : Tok} {Q : Value → Shared → Prop}
    (σ : Sx K mg mb os gs g L l news s) (hm : (a, listOf (pv ++ [v]).toArray n) ∈ news) (h : Q v s)
    (hs : subscripted slice false (.ref a) (.int (-1) u) = operate [.ref a, .int (-1) u] (getItem (.ref a) (.int (-1) u)) := by with_unfolding_all rfl) :
    wpAny (model prog w) A (subscriptTail value slice (.ref a) (.int (-1) u)) Q E s := by
  refine tail_any (isL σ hm).typeIs slot_list_getitem.lookup (wpAny_getItem_list_neg (isL σ hm) (by decide) (by simp; omega) (by decide) ?_ h) hs
  have e : ((-1 : Int) + ((pv ++ [v]).toArray.size : Nat)).toNat = pv.length := by simp; omega
  rw [e]; simp
inductive ItemsAre (g : Heap) : List Value → List (List Nat × Int) → Prop
  | nil : ItemsAre g [] []
  | cons {v x vs xs} : IsItem g v x → ItemsAre g vs xs → ItemsAre g (v :: vs) (x :: xs)
theorem ItemsAre.sub {g g' : Heap} (k : Sub g g') : ∀ {vs : List Value} {xs : List (List Nat × Int)}, ItemsAre g vs xs → ItemsAre g' vs xs
  | _, _, .nil => .nil
  | _, _, .cons h r => .cons (h.sub k) (r.sub k)
theorem ItemsAre.app {g : Heap} : ∀ {vs us : List Value} {ds es : List (List Nat × Int)}, ItemsAre g vs ds → ItemsAre g us es → ItemsAre g (vs ++ us) (ds ++ es)
  | _, _, _, _, .nil, k => k
  | _, _, _, _, .cons h r, k => .cons h (r.app k)
theorem ItemsAre.len {g : Heap} : ∀ {vs : List Value} {ds : List (List Nat × Int)}, ItemsAre g vs ds → vs.length = ds.length
  | _, _, .nil => rfl
  | _, _, .cons _ r => congrArg (· + 1) r.len
theorem ItemsAre.get {g : Heap} : ∀ {vs : List Value} {ds : List (List Nat × Int)}, ItemsAre g vs ds → ∀ (i : Nat) {v : Value}, vs[i]? = some v → ∃ d, ds[i]? = some d ∧ IsItem g v d
  | _, _, .cons h r, 0, v, e => by cases e; exact ⟨_, rfl, h⟩
  | _, _, .cons h r, i + 1, v, e => by simpa using r.get i (by simpa using e)
theorem ItemsAre.of {g : Heap} : ∀ {vs : List Value}, (∀ v ∈ vs, ItP g v) → ItemsAre g vs (vs.map (itF g))
  | [], _ => .nil
  | v :: vs, h => by
    obtain ⟨x, hx⟩ := h v (.head _)
    rw [List.map_cons, itF_eq hx]
    exact .cons hx (.of fun u hu => h u (.tail _ hu))
theorem ItemsAre.snoc {g : Heap} {x : List Nat × Int} : ∀ {xs : List (List Nat × Int)} {vs : List Value}, ItemsAre g vs (xs ++ [x]) → ∃ pv v, vs = pv ++ [v] ∧ ItemsAre g pv xs ∧ IsItem g v x
  | [], _, .cons h r => by cases r; exact ⟨[], _, rfl, .nil, h⟩
  | _ :: _, _, .cons h r => by
    obtain ⟨pv, v, rfl, hp, hv⟩ := r.snoc
    exact ⟨_ :: pv, v, rfl, .cons h hp, hv⟩
theorem ItemsAre.all {g : Heap} : ∀ {vs : List Value} {xs : List (List Nat × Int)}, ItemsAre g vs xs → ∀ v ∈ vs, ItP g v
  | _, _, .cons h r, v, hv => by
    cases hv with
    | head => exact ⟨_, h⟩
    | tail _ hv => exact r.all v hv
end
def moves (up : Bool) (d : List Nat) : List (List Nat) := if up then laidTo d d.length else takenTo d d.length
def pushR (w : Int) : List (List Nat) → List (List Nat × Int) → List (List Nat × Int)
  | [], h => h
  | m :: r, h => pushR w r (gpush ([], 0) ltI h (m, w))
def pushAll (up : Bool) : List (List Nat × Int) → List (List Nat × Int) → List (List Nat × Int)
  | [], h => h
  | x :: r, h => pushAll up r (pushR x.2 (moves up x.1) h)
def addT (told : List (List Nat × Int)) (x : List Nat × Int) : List (List Nat × Int) := match told.reverse with
  | [] => [x]
  | y :: r => if y.1 = x.1 then r.reverse ++ [(x.1, x.2 + y.2)] else told ++ [x]
def popAll : Nat → List (List Nat × Int) → List (List Nat × Int) → Option (List (List Nat × Int))
  | 0, [], told => some told
  | 0, _ :: _, _ => none
  | k + 1, h, told => match gpop ([], 0) ltI h with
    | none => some told
    | some (x, h') => popAll k h' (addT told x)
theorem popAll_nil (n : Nat) (t : List (List Nat × Int)) : popAll n [] t = some t := by cases n <;> rfl
theorem popAll_cons {n : Nat} {h h' t ys : List (List Nat × Int)} {x z : List Nat × Int} (hr : popAll n h t = some ys) (hg : gpop ([], 0) ltI h = some (x, h')) (hz : z ∈ h) : ∃ n', n = n' + 1 ∧ popAll n' h' (addT t x) = some ys := by
  cases n with
  | zero =>
    cases h with
    | nil => cases hz
    | cons _ _ => cases hr
  | succ n =>
    rw [popAll, hg] at hr
    exact ⟨n, rfl, hr⟩
theorem addT_nil (x : List Nat × Int) : addT [] x = [x] := rfl
theorem addT_snoc (p : List (List Nat × Int)) (y x : List Nat × Int) : addT (p ++ [y]) x = if y.1 = x.1 then p ++ [(x.1, x.2 + y.2)] else p ++ [y] ++ [x] := by
  unfold addT; simp
def stepP (up : Bool) (xs : List (List Nat × Int)) : Option (List (List Nat × Int)) := popAll 20 (pushAll up xs []) []
end Mine
end
section
open PySem PySem.W PyProof.Rows PySem.Calls
set_option maxRecDepth 100000
set_option maxHeartbeats 4000000
namespace Mine
local macro_rules | `(tactic| walk_at "mm") => `(tactic| first | exact List.Mem.head _ | (refine List.Mem.tail _ ?_; walk_at "mm") | (refine List.mem_append_right _ ?_; walk_at "mm"))
local macro_rules | `(tactic| walk_at "nd") => `(tactic| (simp only [List.map_cons, List.map_nil]; decide))
local macro_rules | `(tactic| walk_at "rm") => `(tactic| first | exact Rm.nil | ((with_reducible refine' Rm.hit ?rmb); (case rmb => walk_at "rm")) | (refine' Rm.skip ?rma ?rmb; (case rma => decide); (case rmb => walk_at "rm")))
local macro_rules | `(tactic| walk_at "up") => `(tactic| first | (with_reducible exact Up.head) | (refine' Up.tail ?upa; (case upa => walk_at "up")) | (refine' Up.app ?upa _; (case upa => walk_at "up")))
local macro_rules | `(tactic| walk_at "pick") => `(tactic| first | (with_reducible exact Pick.head) | (refine' Pick.tail ?pka; (case pka => walk_at "pick")) | (refine' Pick.app ?pka _; (case pka => walk_at "pick")))
local macro_rules | `(tactic| walk_at "sub") => `(tactic| first | exact List.forall_mem_nil _ | (refine List.forall_mem_cons.mpr ⟨?sba, ?sbb⟩; (case sba => walk_at "mm"); (case sbb => walk_at "sub")))

theorem r_neg {prog : Program} {w : World} {A : Around} {E : Value → Shared → Prop} {K : Frag} {mg mb : Str → Option Value} {os : OsState} {gs : Array GenState} {g : Heap} {L : Addr} {l : List (Str × Value)} {news : List (Addr × Obj)} {s : Shared} {env : Env} {i : Int} {k : Nat} {p1 p2 : Pos} {Q : Value → Shared → Prop} (σ : Sx K mg mb os gs g L l news s)
    (h : ∀ t s', Sx K mg mb os gs g L l news s' → Q (.int (-i) t) s') : wpAny (model prog w) A (eval (.UnaryOp .USub (.Constant (.int i) k p1) p2) env) Q E s :=
  UnaryOp_ (r_int σ fun _ _ σ => PyProof.Rows.neg_int (h _ _ (σ.tok _)))
def grownP (d : List Nat) : List Nat := if d = [] then [0] else d.map (· + 1)
theorem laid {w : World} {mg mb : Str → Option Value} {os : OsState} {gs : Array GenState} {g : Heap} {A : Around} {L : Addr} {l : List (Str × Value)} {news : List (Addr × Obj)} {s : Shared} {Q E : Value → Shared → Prop} {v : Value} {d : List Nat}
    (σ : Sx (hd.heap_39 w.params) mg mb os gs g L l news s) (ρ : Room A 3) (hv : IsRows g v d) (hd1 : d.length ≤ 4) (hd2 : ∀ n ∈ d, n ≤ 4)
    (hgr : Txt.split (qd (Txt.join "\n" (dots d))) "\r\n" = dots (grownP d)) (hq1 : (Txt.join "\n" (dots d)).cps.size ≤ 100) (hq2 : (subs nxt2 "\r\n" (Txt.join "\n" (dots d))).cps.size ≤ 200) (hq3 : (qd (Txt.join "\n" (dots d))).length ≤ 400)
    (k : ∀ g' D ms c s', Sub g g' → RowsAre g' ms (laidTo d d.length) → Sx (hd.heap_39 w.params) mg mb os gs g' L l ((D, listOf (List.toArray ms) c) :: news) s' → Q (.ref D) s') :
    wpAny (model P1 w) A (call (.ref 130) [v]) Q E s := by
  obtain ⟨R, ss, rfl, hR, hss⟩ := hv
  have hsl : ss.length = d.length := by rw [strs_len hss]; simp [dots]
  refine r_call (binds := [("rows", .ref R)]) σ ρ (by k_is) (by k_is) (BindsTo.of_eq rfl) (locs rfl) (by walk_at "nd") (fun L' oL s nL ρ σ => ?_) rfl rfl rfl (by decide)
  have hRs : ∀ {g' : Heap} {s : Shared} {l : List (Str × Value)} {news : List (Addr × Obj)}, Sub g g' → Sx (hd.heap_39 w.params) mg mb os gs g' L' l news s → s.heap.IsList R ss.toArray := fun k σ => hR.at fun o e => σ.keep _ _ (k _ _ e)
  have hjl : ((dots d).map (·.length)).sum + (dots d).length * 1 ≤ 16777216 := by
    have h1 : ∀ (d : List Nat), (∀ n ∈ d, n ≤ 4) → ((dots d).map (·.length)).sum ≤ d.length * 4 := by
      intro d
      induction d with
      | nil => intro _; simp [dots]
      | cons n r ih =>
        intro h
        have := ih fun m hm => h m (.tail _ hm)
        have hn := h n (.head _)
        simp only [dots, List.map_cons, List.sum_cons, List.length_cons] at this ⊢
        have e : (dotS n).length = n := by show (List.replicate n 46).toArray.size = n; simp
        rw [e]; omega
    have := h1 d hd2
    have e : (dots d).length = d.length := by simp [dots]
    rw [e]; omega
  refine wpAny_execs_cons (wpAny_Assign_Name (r_methS PySem.F.slot_str_split PySem.F.type_str_split (r_fn σ (by k_is) (by k_is) (args_cons (r_methS PySem.F.slot_str_join PySem.F.type_str_join (r_str σ fun t1 s σ => ⟨_, _, rfl, r_with1 (r_loc σ (by walk_at "mm") (PyProof.Rows.join_list (hRs (Sub.refl _) σ) hss hjl fun t2 k2 => ?_))⟩))))))
  have σ := σ.tok k2
  refine args_nil ⟨σ.keep, quote σ (ρ.le (by omega)) (by omega) (by omega) fun t3 s σ => ⟨_, _, rfl, r_with1 (r_str σ fun t4 s σ => r_split σ (by decide) (by rw [sizeLine]; omega) fun G gv s hgv σ => r_st σ (by walk_at "rm") fun s σ => ?_)⟩⟩
  dsimp only
  rw [hgr] at hgv
  refine wpAny_execs_cons (wpAny_Assign_Name (List_ (args_cons (wpAny_BinOp (r_loc σ (by walk_at "mm") (List_ (args_cons (r_str σ fun t5 s σ => args_nil (r_newList σ (by show 1 ≤ 2 ^ 24; decide) fun A1 s σ => r_ladd (us := [.str "." t5]) σ (hRs (Sub.refl _) σ) (isL σ (.head _)) (by rw [sizeLine, List.length_singleton]; omega) fun A2 s σ => args_nil (r_newList σ (by show 1 ≤ 2 ^ 24; decide) fun M s σ => r_st σ (by walk_at "rm") fun s σ => ?_))))))))))
  dsimp only
  obtain ⟨g1, hg1, σ, hA⟩ := Sx.freeze (fz := [(A2, listOf (ss ++ [Value.str "." t5]).toArray 0)]) ((σ.pick (Pick.tail (Pick.tail Pick.head))).drop1.pick (Pick.tail Pick.head))
  have hA2 : IsRows g1 (.ref A2) (d ++ [1]) := by
    refine ⟨A2, _, rfl, ⟨_, hA _ (.head _), rfl, _, rfl⟩, ?_⟩
    have : dots (d ++ [1]) = dots d ++ [dotS 1] := by simp [dots]
    rw [this]
    exact strs_app hss (.cons _ _ .nil)
  refine r_seq (fun s => ∃ (g' : Heap) (ms : List Value) (c : Nat), Sub g g' ∧ RowsAre g' ms (laidTo d d.length) ∧ Sx (hd.heap_39 w.params) mg mb os gs g' L' [("made", .ref M)] ((M, listOf ms.toArray c) :: (G, listOf gv.toArray 0) :: (L, oL) :: news) s) ?_ ?_
  · refine r_forR (K := hd.heap_39 w.params) (mg := mg) (mb := mb) (os := os) (gs := gs) (L := L') (g := g) (n := d.length) (a := 0) (c := 1) (ρ.le (by omega)) (fun i (x : Heap × List Value × Nat) => Sub g x.1 ∧ RowsAre x.1 x.2.1 (laidTo d i) ∧ x.2.1.length ≤ i + 1) (fun x => x.1) (fun _ => [("made", .ref M), ("grown", .ref G), ("rows", .ref R)]) (fun x => (M, listOf x.2.1.toArray x.2.2) :: (G, listOf gv.toArray 0) :: (L, oL) :: news) (g1, [.ref A2], 0) ⟨hg1, .cons hA2 .nil, Nat.le_refl _⟩ (fun _ _ h => h.1) ?_ ?_ ?_
    · exact r_fnT σ (by k_is) boot_range (args_cons (r_fnB σ (by k_is) boot_len (args_cons (r_loc σ (by walk_at "mm") (args_nil (call_len_list (hRs hg1 σ) (by simp only [List.size_toArray]; omega) (args_nil (r_rng1 (n := d.length) (σ.tok _) (by simp <;> omega) (by simp <;> omega) (by simp <;> omega)))))))))
    · rintro i ⟨gx, ms, c⟩ own ti s hi ⟨hgx, hms, hml⟩ σ
      dsimp only at hgx hms hml σ
      refine r_st σ (by walk_at "rm") fun s σ => ?_
      have ei : (0 : Int) + (i : Int) * 1 = ((i : Nat) : Int) := by omega
      rw [ei] at σ
      obtain ⟨ta, hia⟩ := (strs_at hss i).1 hi
      have hia' : ss.toArray[(((i : Nat) : Int)).toNat]? = some (.str (dotS (d.getD i 0)) ta) := by rw [Int.toNat_natCast, List.getElem?_toArray]; exact hia
      refine wpAny_execs_cons (wpAny_If (wpAny_mono (show wpAny _ _ _ (fun b s' => b = decide (i = 0 ∨ d.getD i 0 < d.getD (i - 1) 0) ∧ Sx (hd.heap_39 w.params) mg mb os gs gx L' [("i", .int ((i : Nat) : Int) ti), ("made", .ref M), ("grown", .ref G), ("rows", .ref R)] (own ++ (M, listOf ms.toArray c) :: (G, listOf gv.toArray 0) :: (L, oL) :: news) s') (fun _ _ => False) _ from ?_) (fun b s' hb => ?_) fun _ _ z => z.elim))
      · refine r_or1 (wpAny_isTrue_Compare1 (r_loc σ (by walk_at "mm") (r_int σ fun t6 s σ => r_eq (wpAny_truthy_bool ?_))))
        by_cases h0 : i = 0
        · have eb : (((i : Nat) : Int) == 0) = true := by rw [h0]; rfl
          rw [eb]
          simp only [if_true]
          exact ⟨(decide_eq_true (.inl h0)).symm, σ⟩
        · have eb : (((i : Nat) : Int) == 0) = false := by rw [beq_eq_false_iff_ne]; omega
          rw [eb]
          simp only [Bool.false_eq_true, if_false]
          obtain ⟨tb, hib⟩ := (strs_at hss (i - 1)).1 (by omega)
          have e1 : ((i : Nat) : Int) - 1 = ((i - 1 : Nat) : Int) := by omega
          have hib' : ss.toArray[(((i : Nat) : Int) - 1).toNat]? = some (.str (dotS (d.getD (i - 1) 0)) tb) := by rw [e1, Int.toNat_natCast, List.getElem?_toArray]; exact hib
          refine wpAny_isTrue_Compare1 (Subscript_ (r_loc σ (by walk_at "mm") (wpAny_BinOp (r_loc σ (by walk_at "mm") (r_int σ fun t7 s σ => r_sub σ fun t8 s σ => r_itemG (hRs hgx σ) (by omega) (by omega) hib' (Subscript_ (r_loc σ (by walk_at "mm") (r_loc σ (by walk_at "mm") (r_itemG (hRs hgx σ) (Int.natCast_nonneg _) (by omega) hia' (r_sgt (wpAny_truthy_bool ⟨?_, σ⟩)))))))))))
          rw [show decide ((dotS (d.getD i 0)).cps.toList < (dotS (d.getD (i - 1) 0)).cps.toList) = decide (d.getD i 0 < d.getD (i - 1) 0) from rep_lt _ _]
          simp [h0]
      · obtain ⟨rfl, σ⟩ := hb
        by_cases hc : i = 0 ∨ d.getD i 0 < d.getD (i - 1) 0
        · rw [decide_eq_true hc]
          simp only [if_true]
          have hne : d ≠ [] := fun e => by rw [e] at hi; simp at hi
          have hgl : i < (grownP d).length := by unfold grownP; rw [if_neg hne, List.length_map]; exact hi
          obtain ⟨tg, hig⟩ := (strs_at hgv i).1 hgl
          have egr : (grownP d).getD i 0 = d.getD i 0 + 1 := by
            unfold grownP; rw [if_neg hne]; simp [List.getD_eq_getElem?_getD, List.getElem?_map, List.getElem?_eq_getElem hi]
          rw [egr] at hig
          have hig' : gv.toArray[(((i : Nat) : Int)).toNat]? = some (.str (dotS (d.getD i 0 + 1)) tg) := by rw [Int.toNat_natCast, List.getElem?_toArray]; exact hig
          refine wpAny_execs_cons (wpAny_Expr (r_meth (a := M) σ (by walk_at "mm") PySem.F.slot_list_append PySem.F.type_list_append (r_loc σ (by walk_at "mm") ⟨rfl, rfl⟩) (r_with1 (wpAny_BinOp (wpAny_BinOp ?_)))))
          refine r_lsl (K := hd.heap_39 w.params) (mg := mg) (mb := mb) (os := os) (gs := gs) (L := L') (g := gx) (l := [("i", .int ((i : Nat) : Int) ti), ("made", .ref M), ("grown", .ref G), ("rows", .ref R)]) (news := own ++ (M, listOf ms.toArray c) :: (G, listOf gv.toArray 0) :: (L, oL) :: news) (r_loc σ (by walk_at "mm") (evalPart_none_step (evalPart_some_step (r_loc σ (by walk_at "mm") ⟨R, ss, none, some ((i : Nat) : Int), rfl, hRs hgx σ, by rw [sizeLine]; omega, .none, .int _ _, σ, fun B1 s σ => ?_⟩))))
          rw [slicePick_upto'] at σ
          refine List_ (args_cons (Subscript_ (r_loc σ (by walk_at "mm") (r_loc σ (by walk_at "mm") (r_item (a := G) σ (by walk_at "mm") (Int.natCast_nonneg _) (by omega) hig' (args_nil (r_newList σ (by show 1 ≤ 2 ^ 24; decide) fun B2 s σ => ?_)))))))
          refine r_ladd (vs := ss.take i) (us := [.str (dotS (d.getD i 0 + 1)) tg]) σ (isL σ (.tail _ (.head _))) (isL σ (.head _)) (by rw [sizeLine, List.length_take, List.length_singleton]; omega) fun B3 s σ => ?_
          refine r_lsl (K := hd.heap_39 w.params) (mg := mg) (mb := mb) (os := os) (gs := gs) (L := L') (g := gx) (l := [("i", .int ((i : Nat) : Int) ti), ("made", .ref M), ("grown", .ref G), ("rows", .ref R)]) (r_loc σ (by walk_at "mm") (evalPart_some_step (wpAny_BinOp (r_loc σ (by walk_at "mm") (r_int σ fun t9 s σ => r_add σ fun t10 s σ => evalPart_none_step ⟨R, ss, some (((i : Nat) : Int) + 1), none, rfl, hRs hgx σ, by rw [sizeLine]; omega, .int _ _, .none, σ, fun B4 s σ => ?_⟩)))))
          rw [show ((i : Nat) : Int) + 1 = ((i + 1 : Nat) : Int) from by omega, slicePick_from'] at σ
          refine r_ladd (vs := ss.take i ++ [.str (dotS (d.getD i 0 + 1)) tg]) (us := ss.drop (i + 1)) σ (isL σ (.tail _ (.head _))) (isL σ (.head _)) (by rw [sizeLine, List.length_append, List.length_take, List.length_singleton, List.length_drop]; omega) fun B5 s σ => ?_
          have σ := (((σ.pick (Pick.tail Pick.head)).drop1.pick (Pick.tail Pick.head)).drop1.pick (Pick.tail Pick.head)).drop1
          have σ := (σ.pick (Pick.tail Pick.head)).drop1
          refine r_append (a := M) σ (by walk_at "up") (by rw [sizeLine]; omega) fun s σ => ?_
          dsimp only
          obtain ⟨g2, hg2, σ, hB⟩ := Sx.freeze (fz := [(B5, listOf (ss.take i ++ [Value.str (dotS (d.getD i 0 + 1)) tg] ++ ss.drop (i + 1)).toArray 0)]) σ
          have hB5 : IsRows g2 (.ref B5) (d.take i ++ [d.getD i 0 + 1] ++ d.drop (i + 1)) := by
            refine ⟨B5, _, rfl, ⟨_, hB _ (.head _), rfl, _, rfl⟩, ?_⟩
            have : dots (d.take i ++ [d.getD i 0 + 1] ++ d.drop (i + 1)) = (dots d).take i ++ [dotS (d.getD i 0 + 1)] ++ (dots d).drop (i + 1) := by simp [dots, List.map_take, List.map_drop]
            rw [this]
            exact strs_app (strs_app (strs_take2 hss i) (.cons _ _ .nil)) (strs_drop hss (i + 1))
          refine wpAny_execs_nil ?_
          dsimp only
          refine wpAny_execs_nil ⟨(g2, ms ++ [.ref B5], c + 1), ⟨hgx.trans hg2, ?_, by rw [List.length_append, List.length_singleton]; omega⟩, σ.loc (by walk_at "sub")⟩
          unfold laidTo laidAt
          rw [if_pos hc]
          exact (hms.sub hg2).app (.cons hB5 .nil)
        · rw [decide_eq_false hc]
          simp only [Bool.false_eq_true, if_false]
          refine wpAny_execs_nil ?_
          dsimp only
          refine wpAny_execs_nil ⟨(gx, ms, c), ⟨hgx, ?_, by show ms.length ≤ _; omega⟩, σ.loc (by walk_at "sub")⟩
          unfold laidTo laidAt
          rw [if_neg hc, List.append_nil]
          exact hms
    · rintro ⟨gx, ms, c⟩ s ⟨h1, h2, _⟩ σ
      exact wpAny_execs_nil ⟨rfl, gx, ms, c, h1, h2, σ.loc (by walk_at "sub")⟩
  · rintro s ⟨g', ms, c, h1, h2, σ⟩
    refine wpAny_execs_cons (wpAny_Return_some (r_loc σ (by walk_at "mm") (k g' M ms c s h1 h2 ?_)))
    exact ((σ.pick (Pick.tail Pick.head)).drop1).back nL (by walk_at "pick")
end Mine
end
section
open PySem PySem.W PyProof.Rows PySem.Calls
set_option maxRecDepth 100000
set_option maxHeartbeats 4000000
namespace Mine
local macro_rules | `(tactic| walk_at "mm") => `(tactic| first | exact List.Mem.head _ | (refine List.Mem.tail _ ?_; walk_at "mm") | (refine List.mem_append_right _ ?_; walk_at "mm"))
local macro_rules | `(tactic| walk_at "nd") => `(tactic| (simp only [List.map_cons, List.map_nil]; decide))
local macro_rules | `(tactic| walk_at "rm") => `(tactic| first | exact Rm.nil | ((with_reducible refine' Rm.hit ?rmb); (case rmb => walk_at "rm")) | (refine' Rm.skip ?rma ?rmb; (case rma => decide); (case rmb => walk_at "rm")))
local macro_rules | `(tactic| walk_at "up") => `(tactic| first | (with_reducible exact Up.head) | (refine' Up.tail ?upa; (case upa => walk_at "up")) | (refine' Up.app ?upa _; (case upa => walk_at "up")))
local macro_rules | `(tactic| walk_at "pick") => `(tactic| first | (with_reducible exact Pick.head) | (refine' Pick.tail ?pka; (case pka => walk_at "pick")) | (refine' Pick.app ?pka _; (case pka => walk_at "pick")))
local macro_rules | `(tactic| walk_at "sub") => `(tactic| first | exact List.forall_mem_nil _ | (refine List.forall_mem_cons.mpr ⟨?sba, ?sbb⟩; (case sba => walk_at "mm"); (case sbb => walk_at "sub")))

theorem cut1 (n : Nat) (h1 : 1 < n) (h2 : n ≤ 4) : Txt.slice (dotS n) (some 1) none = dotS (n - 1) := by
  have : n = 2 ∨ n = 3 ∨ n = 4 := by omega
  rcases this with rfl | rfl | rfl <;> decide +kernel
theorem taken {w : World} {mg mb : Str → Option Value} {os : OsState} {gs : Array GenState} {g : Heap} {A : Around} {L : Addr} {l : List (Str × Value)} {news : List (Addr × Obj)} {s : Shared} {Q E : Value → Shared → Prop} {v : Value} {d : List Nat}
    (σ : Sx (hd.heap_39 w.params) mg mb os gs g L l news s) (ρ : Room A 3) (hv : IsRows g v d) (hd1 : d.length ≤ 4) (hd2 : ∀ n ∈ d, n ≤ 4)
    (k : ∀ g' D ms c s', Sub g g' → RowsAre g' ms (takenTo d d.length) → Sx (hd.heap_39 w.params) mg mb os gs g' L l ((D, listOf (List.toArray ms) c) :: news) s' → Q (.ref D) s') :
    wpAny (model P1 w) A (call (.ref 137) [v]) Q E s := by
  obtain ⟨R, ss, rfl, hR, hss⟩ := hv
  have hsl : ss.length = d.length := by rw [strs_len hss]; simp [dots]
  refine r_call (binds := [("rows", .ref R)]) σ ρ (by k_is) (by k_is) (BindsTo.of_eq rfl) (locs rfl) (by walk_at "nd") (fun L' oL s nL ρ σ => ?_) rfl rfl rfl (by decide)
  have hRs : ∀ {g' : Heap} {s : Shared} {l : List (Str × Value)} {news : List (Addr × Obj)}, Sub g g' → Sx (hd.heap_39 w.params) mg mb os gs g' L' l news s → s.heap.IsList R ss.toArray := fun k σ => hR.at fun o e => σ.keep _ _ (k _ _ e)
  refine wpAny_execs_cons (wpAny_Assign_Name (List_ (args_nil (r_newList σ (by decide) fun M s σ => r_st σ (by walk_at "rm") fun s σ => ?_))))
  dsimp only
  refine r_seq (fun s => ∃ (g' : Heap) (ms : List Value) (c : Nat), Sub g g' ∧ RowsAre g' ms (takenTo d d.length) ∧ Sx (hd.heap_39 w.params) mg mb os gs g' L' [("made", .ref M)] ((M, listOf ms.toArray c) :: (L, oL) :: news) s) ?_ ?_
  · refine r_forR (K := hd.heap_39 w.params) (mg := mg) (mb := mb) (os := os) (gs := gs) (L := L') (g := g) (n := d.length) (a := 0) (c := 1) (ρ.le (by omega)) (fun i (x : Heap × List Value × Nat) => Sub g x.1 ∧ RowsAre x.1 x.2.1 (takenTo d i) ∧ x.2.1.length ≤ i + 1) (fun x => x.1) (fun _ => [("made", .ref M), ("rows", .ref R)]) (fun x => (M, listOf x.2.1.toArray x.2.2) :: (L, oL) :: news) (g, [], 0) ⟨Sub.refl _, .nil, Nat.zero_le _⟩ (fun _ _ h => h.1) ?_ ?_ ?_
    · exact r_fnT σ (by k_is) boot_range (args_cons (r_fnB σ (by k_is) boot_len (args_cons (r_loc σ (by walk_at "mm") (args_nil (call_len_list (hRs (Sub.refl _) σ) (by simp only [List.size_toArray]; omega) (args_nil (r_rng1 (n := d.length) (σ.tok _) (by simp <;> omega) (by simp <;> omega) (by simp <;> omega)))))))))
    · rintro i ⟨gx, ms, c⟩ own ti s hi ⟨hgx, hms, hml⟩ σ
      dsimp only at hgx hms hml σ
      refine r_st σ (by walk_at "rm") fun s σ => ?_
      have ei : (0 : Int) + (i : Int) * 1 = ((i : Nat) : Int) := by omega
      rw [ei] at σ
      obtain ⟨ta, hia⟩ := (strs_at hss i).1 hi
      have hia' : ss.toArray[(((i : Nat) : Int)).toNat]? = some (.str (dotS (d.getD i 0)) ta) := by rw [Int.toNat_natCast, List.getElem?_toArray]; exact hia
      have hdi : d.getD i 0 ≤ 4 := by
        have e : d.getD i 0 = d[i] := by simp [hi]
        rw [e]; exact hd2 _ (List.getElem_mem hi)
      have hdl : (dotS (d.getD i 0)).length = d.getD i 0 := by show (List.replicate _ 46).toArray.size = _; simp
      refine wpAny_execs_cons (wpAny_If (wpAny_mono (show wpAny _ _ _ (fun b s' => b = decide (i = d.length - 1 ∨ d.getD (i + 1) 0 < d.getD i 0) ∧ Sx (hd.heap_39 w.params) mg mb os gs gx L' [("i", .int ((i : Nat) : Int) ti), ("made", .ref M), ("rows", .ref R)] (own ++ (M, listOf ms.toArray c) :: (L, oL) :: news) s') (fun _ _ => False) _ from ?_) (fun b s' hb => ?_) fun _ _ z => z.elim))
      · refine r_or1 (wpAny_isTrue_Compare1 (r_loc σ (by walk_at "mm") (wpAny_BinOp (r_fnB σ (by k_is) boot_len (args_cons (r_loc σ (by walk_at "mm") (args_nil (call_len_list (hRs hgx σ) (by simp only [List.size_toArray]; omega) ?_))))))))
        have σ := σ.tok (s.toks + 1 + 1)
        refine r_int σ fun t6 s σ => r_sub σ fun t7 s σ => r_eq (wpAny_truthy_bool ?_)
        by_cases h0 : i = d.length - 1
        · have eb : (((i : Nat) : Int) == ((ss.toArray.size : Nat) : Int) - 1) = true := by rw [List.size_toArray, beq_iff_eq]; omega
          rw [eb]
          simp only [if_true]
          exact ⟨(decide_eq_true (.inl h0)).symm, σ⟩
        · have eb : (((i : Nat) : Int) == ((ss.toArray.size : Nat) : Int) - 1) = false := by rw [List.size_toArray, beq_eq_false_iff_ne]; omega
          rw [eb]
          simp only [Bool.false_eq_true, if_false]
          obtain ⟨tb, hib⟩ := (strs_at hss (i + 1)).1 (by omega)
          have e1 : ((i : Nat) : Int) + 1 = ((i + 1 : Nat) : Int) := by omega
          have hib' : ss.toArray[(((i : Nat) : Int) + 1).toNat]? = some (.str (dotS (d.getD (i + 1) 0)) tb) := by rw [e1, Int.toNat_natCast, List.getElem?_toArray]; exact hib
          refine wpAny_isTrue_Compare1 (Subscript_ (r_loc σ (by walk_at "mm") (r_loc σ (by walk_at "mm") (r_itemG (hRs hgx σ) (Int.natCast_nonneg _) (by omega) hia' (Subscript_ (r_loc σ (by walk_at "mm") (wpAny_BinOp (r_loc σ (by walk_at "mm") (r_int σ fun t8 s σ => r_add σ fun t9 s σ => r_itemG (hRs hgx σ) (by omega) (by omega) hib' (r_sgt (wpAny_truthy_bool ⟨?_, σ⟩)))))))))))
          rw [show decide ((dotS (d.getD (i + 1) 0)).cps.toList < (dotS (d.getD i 0)).cps.toList) = decide (d.getD (i + 1) 0 < d.getD i 0) from rep_lt _ _]
          simp [h0]
      · obtain ⟨rfl, σ⟩ := hb
        by_cases hc : i = d.length - 1 ∨ d.getD (i + 1) 0 < d.getD i 0
        · rw [decide_eq_true hc]
          simp only [if_true]
          refine r_seq (fun s => ∃ (S : Addr) (sh : List Value), StrsAre sh (dots (if d.getD i 0 > 1 then [d.getD i 0 - 1] else [])) ∧ Sx (hd.heap_39 w.params) mg mb os gs gx L' [("short", .ref S), ("i", .int ((i : Nat) : Int) ti), ("made", .ref M), ("rows", .ref R)] ((S, listOf sh.toArray 0) :: (own ++ (M, listOf ms.toArray c) :: (L, oL) :: news)) s) ?_ ?_
          · refine wpAny_Assign_Name (wpAny_IfExp (wpAny_isTrue_Compare1 (r_fnB σ (by k_is) boot_len (args_cons (Subscript_ (r_loc σ (by walk_at "mm") (r_loc σ (by walk_at "mm") (r_itemG (hRs hgx σ) (Int.natCast_nonneg _) (by omega) hia' (args_nil (P.len_str (by omega) ?_))))))))))
            have σ := σ.tok (s'.toks + 1 + 1)
            refine r_int σ fun t10 s σ => r_gt (wpAny_truthy_bool ?_)
            by_cases hg1 : d.getD i 0 > 1
            · have eb : decide (((dotS (d.getD i 0)).length : Int) > 1) = true := decide_eq_true (by omega)
              rw [eb]
              simp only [if_true]
              refine List_ (args_cons (Subscript_ (Subscript_ (r_loc σ (by walk_at "mm") (r_loc σ (by walk_at "mm") (r_itemG (hRs hgx σ) (Int.natCast_nonneg _) (by omega) hia' (wpAny_Slice (evalPart_some_step (r_int σ fun t11 s σ => evalPart_none_step (evalPart_none_step ?_))))))))))
              refine r_ssl σ (by rw [sizeLine]; omega) fun t12 s σ => args_nil (r_newList σ (by show 1 ≤ 2 ^ 24; decide) fun S s σ => r_st σ (by walk_at "rm") fun s σ => ⟨trivial, S, _, ?_, σ⟩)
              rw [if_pos hg1, cut1 _ hg1 hdi]
              exact .cons _ _ .nil
            · have eb : decide (((dotS (d.getD i 0)).length : Int) > 1) = false := decide_eq_false (by omega)
              rw [eb]
              simp only [Bool.false_eq_true, if_false]
              refine List_ (args_nil (r_newList σ (by decide) fun S s σ => r_st σ (by walk_at "rm") fun s σ => ⟨trivial, S, [], ?_, σ⟩))
              rw [if_neg hg1]; exact .nil
          · rintro s ⟨S, sh, hsh, σ⟩
            have hshl : sh.length ≤ 1 := by
              rw [strs_len hsh]; split <;> simp [dots]
            refine wpAny_execs_cons (wpAny_Expr (r_meth (a := M) σ (by walk_at "mm") PySem.F.slot_list_append PySem.F.type_list_append (r_loc σ (by walk_at "mm") ⟨rfl, rfl⟩) (r_with1 (wpAny_BinOp (wpAny_BinOp ?_)))))
            refine r_lsl (K := hd.heap_39 w.params) (mg := mg) (mb := mb) (os := os) (gs := gs) (L := L') (g := gx) (l := [("short", .ref S), ("i", .int ((i : Nat) : Int) ti), ("made", .ref M), ("rows", .ref R)]) (r_loc σ (by walk_at "mm") (evalPart_none_step (evalPart_some_step (r_loc σ (by walk_at "mm") ⟨R, ss, none, some ((i : Nat) : Int), rfl, hRs hgx σ, by rw [sizeLine]; omega, .none, .int _ _, σ, fun B1 s σ => ?_⟩))))
            rw [slicePick_upto'] at σ
            refine r_loc σ (by walk_at "mm") (r_ladd (vs := ss.take i) (us := sh) σ (isL σ (.head _)) (isL σ (.tail _ (.head _))) (by rw [sizeLine, List.length_take]; omega) fun B3 s σ => ?_)
            refine r_lsl (K := hd.heap_39 w.params) (mg := mg) (mb := mb) (os := os) (gs := gs) (L := L') (g := gx) (l := [("short", .ref S), ("i", .int ((i : Nat) : Int) ti), ("made", .ref M), ("rows", .ref R)]) (r_loc σ (by walk_at "mm") (evalPart_some_step (wpAny_BinOp (r_loc σ (by walk_at "mm") (r_int σ fun t9 s σ => r_add σ fun t10 s σ => evalPart_none_step ⟨R, ss, some (((i : Nat) : Int) + 1), none, rfl, hRs hgx σ, by rw [sizeLine]; omega, .int _ _, .none, σ, fun B4 s σ => ?_⟩)))))
            rw [show ((i : Nat) : Int) + 1 = ((i + 1 : Nat) : Int) from by omega, slicePick_from'] at σ
            refine r_ladd (vs := ss.take i ++ sh) (us := ss.drop (i + 1)) σ (isL σ (.tail _ (.head _))) (isL σ (.head _)) (by rw [sizeLine, List.length_append, List.length_take, List.length_drop]; omega) fun B5 s σ => ?_
            have σ := (((σ.pick (Pick.tail Pick.head)).drop1.pick (Pick.tail Pick.head)).drop1.pick (Pick.tail Pick.head)).drop1
            have σ := (σ.pick (Pick.tail Pick.head)).drop1
            refine r_append (a := M) σ (by walk_at "up") (by rw [sizeLine]; omega) fun s σ => ?_
            dsimp only
            obtain ⟨g2, hg2, σ, hB⟩ := Sx.freeze (fz := [(B5, listOf (ss.take i ++ sh ++ ss.drop (i + 1)).toArray 0)]) σ
            have hB5 : IsRows g2 (.ref B5) (d.take i ++ (if d.getD i 0 > 1 then [d.getD i 0 - 1] else []) ++ d.drop (i + 1)) := by
              refine ⟨B5, _, rfl, ⟨_, hB _ (.head _), rfl, _, rfl⟩, ?_⟩
              have : dots (d.take i ++ (if d.getD i 0 > 1 then [d.getD i 0 - 1] else []) ++ d.drop (i + 1)) = (dots d).take i ++ dots (if d.getD i 0 > 1 then [d.getD i 0 - 1] else []) ++ (dots d).drop (i + 1) := by simp only [dots, List.map_append, List.map_take, List.map_drop]
              rw [this]
              exact strs_app (strs_app (strs_take2 hss i) hsh) (strs_drop hss (i + 1))
            refine wpAny_execs_nil ?_
            dsimp only
            refine wpAny_execs_nil ⟨(g2, ms ++ [.ref B5], c + 1), ⟨hgx.trans hg2, ?_, by rw [List.length_append, List.length_singleton]; omega⟩, σ.loc (by walk_at "sub")⟩
            unfold takenTo takenAt
            rw [if_pos hc]
            exact (hms.sub hg2).app (.cons hB5 .nil)
        · rw [decide_eq_false hc]
          simp only [Bool.false_eq_true, if_false]
          refine wpAny_execs_nil ?_
          dsimp only
          refine wpAny_execs_nil ⟨(gx, ms, c), ⟨hgx, ?_, by show ms.length ≤ _; omega⟩, σ.loc (by walk_at "sub")⟩
          unfold takenTo takenAt
          rw [if_neg hc, List.append_nil]
          exact hms
    · rintro ⟨gx, ms, c⟩ s ⟨h1, h2, _⟩ σ
      exact wpAny_execs_nil ⟨rfl, gx, ms, c, h1, h2, σ.loc (by walk_at "sub")⟩
  · rintro s ⟨g', ms, c, h1, h2, σ⟩
    refine wpAny_execs_cons (wpAny_Return_some (r_loc σ (by walk_at "mm") (k g' M ms c s h1 h2 ?_)))
    exact σ.back nL (by walk_at "pick")
end Mine
end
section
open PySem PySem.W PyProof.Rows PySem.Calls
set_option maxRecDepth 100000
set_option maxHeartbeats 4000000
namespace Mine
local macro_rules | `(tactic| walk_at "mm") => `(tactic| first | exact List.Mem.head _ | (refine List.Mem.tail _ ?_; walk_at "mm") | (refine List.mem_append_right _ ?_; walk_at "mm"))
local macro_rules | `(tactic| walk_at "nd") => `(tactic| (simp only [List.map_cons, List.map_nil]; decide))
local macro_rules | `(tactic| walk_at "rm") => `(tactic| first | exact Rm.nil | ((with_reducible refine' Rm.hit ?rmb); (case rmb => walk_at "rm")) | (refine' Rm.skip ?rma ?rmb; (case rma => decide); (case rmb => walk_at "rm")))
local macro_rules | `(tactic| walk_at "up") => `(tactic| first | (with_reducible exact Up.head) | (refine' Up.tail ?upa; (case upa => walk_at "up")) | (refine' Up.app ?upa _; (case upa => walk_at "up")))
local macro_rules | `(tactic| walk_at "pick") => `(tactic| first | (with_reducible exact Pick.head) | (refine' Pick.tail ?pka; (case pka => walk_at "pick")) | (refine' Pick.app ?pka _; (case pka => walk_at "pick")))
local macro_rules | `(tactic| walk_at "sub") => `(tactic| first | exact List.forall_mem_nil _ | (refine List.forall_mem_cons.mpr ⟨?sba, ?sbb⟩; (case sba => walk_at "mm"); (case sbb => walk_at "sub")))

def hk2 (d : List Nat) (i j : Nat) : Int := (d.getD i 0 : Int) - (j : Int) + (((d.drop (i + 1)).filter fun y => decide (y > j)).length : Nat)
def hRow (d : List Nat) (i : Nat) : Nat → Int
  | 0 => 1
  | j + 1 => hRow d i j * hk2 d i j
def hPr (d : List Nat) : Nat → Int
  | 0 => 1
  | i + 1 => hPr d i * hRow d i (d.getD i 0)
def gtS (c : Int) : Value → Bool
  | .str x _ => decide ((x.length : Int) > c)
  | _ => false
theorem dot_len (n : Nat) : (dotS n).length = n := by show (List.replicate _ 46).toArray.size = _; simp
theorem gtS_len (c : Nat) : ∀ {vs : List Value} {d : List Nat}, StrsAre vs (dots d) → (vs.filter (gtS (c : Int))).length = (d.filter fun y => decide (y > c)).length
  | _, [], h => by cases h; rfl
  | _, n :: d, h => by
    cases h with
    | cons y t h =>
      have ih := gtS_len c h
      rw [List.filter_cons, List.filter_cons]
      have e : gtS (c : Int) (.str (dotS n) t) = decide (n > c) := by
        show decide (((dotS n).length : Int) > (c : Int)) = _
        rw [dot_len]
        by_cases hh : n > c
        · rw [decide_eq_true hh, decide_eq_true (by omega)]
        · rw [decide_eq_false hh, decide_eq_false (by omega)]
      rw [e]
      split
      · rw [List.length_cons, List.length_cons, ih]
      · exact ih
theorem strs_mem2 : ∀ {vs : List Value} {xs : List Str}, StrsAre vs xs → ∀ {v : Value}, v ∈ vs → ∃ x u, v = .str x u ∧ x ∈ xs
  | _, _, .cons y t h, _, .head _ => ⟨y, t, rfl, .head _⟩
  | _, _, .cons y t h, _, .tail _ hv => let ⟨x, u, e, m⟩ := strs_mem2 h hv; ⟨x, u, e, .tail _ m⟩
theorem hooks2 {w : World} {mg mb : Str → Option Value} {os : OsState} {gs : Array GenState} {g : Heap} {A : Around} {L : Addr} {l : List (Str × Value)} {news : List (Addr × Obj)} {s : Shared} {Q E : Value → Shared → Prop} {v : Value} {d : List Nat}
    (σ : Sx (hd.heap_39 w.params) mg mb os gs g L l news s) (ρ : Room A 2) (hv : IsRows g v d) (hd1 : d.length ≤ 4) (hd2 : ∀ n ∈ d, n ≤ 4)
    (k : ∀ t s', Sx (hd.heap_39 w.params) mg mb os gs g L l news s' → Q (.int (hPr d d.length) t) s') :
    wpAny (model P1 w) A (call (.ref 149) [v]) Q E s := by
  obtain ⟨R, ss, rfl, hR, hss⟩ := hv
  have hsl : ss.length = d.length := by rw [strs_len hss]; simp [dots]
  refine r_callC (binds := [("rows", .ref R)]) (y := "column") σ ρ (by k_is) (by k_is) rfl (locs rfl) (by walk_at "nd") (fun _ => rfl) (fun L' oL oC s nL hC ρ σ => ?_) rfl rfl rfl
  have hRs : ∀ {s : Shared} {l : List (Str × Value)} {news : List (Addr × Obj)}, Sx (hd.heap_39 w.params) mg mb os gs g L' l news s → s.heap.IsList R ss.toArray := fun σ => hR.at fun o e => σ.keep _ _ e
  refine wpAny_execs_cons (wpAny_Assign_Name (r_int σ fun t1 s σ => r_st σ (by walk_at "rm") fun s σ => ?_))
  dsimp only
  refine r_seq (fun s => ∃ t2 o2, Sx (hd.heap_39 w.params) mg mb os gs g L' [("hooks", .int (hPr d d.length) t2)] ((L' + 1, o2) :: (L, oL) :: news) s) ?_ ?_
  · refine r_forR (K := hd.heap_39 w.params) (mg := mg) (mb := mb) (os := os) (gs := gs) (L := L') (g := g) (n := d.length) (a := 0) (c := 1) (ρ.le (by omega)) (fun i (x : Nat × Tok × Obj) => x.1 = i ∧ ∃ v, x.2.2.data = .cell v) (fun _ => g) (fun x => [("hooks", .int (hPr d x.1) x.2.1), ("rows", .ref R)]) (fun x => (L' + 1, x.2.2) :: (L, oL) :: news) (0, t1, oC) ⟨rfl, _, hC⟩ (fun _ _ _ => Sub.refl g) ?_ ?_ ?_
    · exact r_fnT σ (by k_is) boot_range (args_cons (r_fnB σ (by k_is) boot_len (args_cons (r_loc σ (by walk_at "mm") (args_nil (call_len_list (hRs σ) (by simp only [List.size_toArray]; omega) (args_nil (r_rng1 (n := d.length) (σ.tok _) (by simp <;> omega) (by simp <;> omega) (by simp <;> omega)))))))))
    · rintro i0 ⟨i, th, o2⟩ own ti s hi ⟨hi0, v0, ho2⟩ σ
      obtain rfl : i = i0 := hi0
      dsimp only at ho2 σ
      refine r_st σ (by walk_at "rm") fun s σ => ?_
      have ei : (0 : Int) + (i : Int) * 1 = ((i : Nat) : Int) := by omega
      rw [ei] at σ
      obtain ⟨ta, hia⟩ := (strs_at hss i).1 hi
      have hia' : ss.toArray[(((i : Nat) : Int)).toNat]? = some (.str (dotS (d.getD i 0)) ta) := by rw [Int.toNat_natCast, List.getElem?_toArray]; exact hia
      have hdi : d.getD i 0 ≤ 4 := by
        have e : d.getD i 0 = d[i] := by simp [hi]
        rw [e]; exact hd2 _ (List.getElem_mem hi)
      have hdl := dot_len (d.getD i 0)
      refine r_seq (fun s => ∃ t3 o3, (∃ v, o3.data = .cell v) ∧ Sx (hd.heap_39 w.params) mg mb os gs g L' [("hooks", .int (hPr d (i + 1)) t3), ("rows", .ref R)] (own ++ (L' + 1, o3) :: (L, oL) :: news) s) ?_ ?_
      · refine r_forR (K := hd.heap_39 w.params) (mg := mg) (mb := mb) (os := os) (gs := gs) (L := L') (g := g) (n := d.getD i 0) (a := 0) (c := 1) (ρ.le (by omega)) (fun j (x : Nat × Tok × Obj) => x.1 = j ∧ ∃ v, x.2.2.data = .cell v) (fun _ => g) (fun x => [("hooks", .int (hPr d i * hRow d i x.1) x.2.1), ("i", .int ((i : Nat) : Int) ti), ("rows", .ref R)]) (fun x => own ++ (L' + 1, x.2.2) :: (L, oL) :: news) (0, th, o2) ⟨rfl, v0, ho2⟩ (fun _ _ _ => Sub.refl g) ?_ ?_ ?_
        · refine r_fnT σ (by k_is) boot_range (args_cons (r_fnB σ (by k_is) boot_len (args_cons (Subscript_ (r_loc σ (by walk_at "mm") (r_loc σ (by walk_at "mm") (r_itemG (hRs σ) (Int.natCast_nonneg _) (by omega) hia' (args_nil (P.len_str (by omega) ?_)))))))))
          have σ := σ.tok (s.toks + 1 + 1)
          have σ := σ.loc (l' := [("hooks", .int (hPr d i) th), ("i", .int ((i : Nat) : Int) ti), ("rows", .ref R)]) (by walk_at "sub")
          refine args_nil ?_
          have e1 : hPr d i * hRow d i 0 = hPr d i := by show hPr d i * 1 = _; omega
          dsimp only
          rw [e1]
          exact r_rng1 (n := d.getD i 0) σ (by omega) (by omega) (by omega)
        · rintro j0 ⟨j, tj, o4⟩ own2 tc s hj ⟨hj0, v4, ho4⟩ σ
          obtain rfl : j = j0 := hj0
          dsimp only at ho4 σ
          have ej : (0 : Int) + (j : Int) * 1 = ((j : Nat) : Int) := by omega
          rw [ej]
          refine r_stU (nw := fun o' => own2 ++ (own ++ (L' + 1, o') :: (L, oL) :: news)) σ (fun o' => by walk_at "up") ho4 fun s o5 ho5 σ => ?_
          refine wpAny_execs_cons (wpAny_Assign_Name (r_fnB σ (by k_is) boot_len (args_cons ?_)))
          refine r_compL (cl := [("column", L' + 1)]) (K := hd.heap_39 w.params) (mg := mg) (mb := mb) (os := os) (gs := gs) (L := L') (g := g) (l := [("hooks", .int (hPr d i * hRow d i j) tj), ("i", .int ((i : Nat) : Int) ti), ("rows", .ref R)]) (news := own2 ++ (own ++ (L' + 1, o5) :: (L, oL) :: news)) (ρ.le (by omega)) (gtS ((j : Nat) : Int)) (fun v y => y = v) ?_
          refine r_lsl (K := hd.heap_39 w.params) (mg := mg) (mb := mb) (os := os) (gs := gs) (L := L') (g := g) (l := [("hooks", .int (hPr d i * hRow d i j) tj), ("i", .int ((i : Nat) : Int) ti), ("rows", .ref R)]) (news := own2 ++ (own ++ (L' + 1, o5) :: (L, oL) :: news)) (r_loc σ (by walk_at "mm") (evalPart_some_step (wpAny_BinOp (r_loc σ (by walk_at "mm") (r_int σ fun t4 s σ => r_add σ fun t5 s σ => evalPart_none_step ⟨R, ss, some (((i : Nat) : Int) + 1), none, rfl, hRs σ, by rw [sizeLine]; omega, .int _ _, .none, σ, fun D2 s σ => ?_⟩)))))
          rw [show ((i : Nat) : Int) + 1 = ((i + 1 : Nat) : Int) from by omega, slicePick_from'] at σ
          have hsd : StrsAre (ss.drop (i + 1)) (dots (d.drop (i + 1))) := by
            have := strs_drop hss (i + 1)
            have e : dots (d.drop (i + 1)) = (dots d).drop (i + 1) := by simp [dots, List.map_drop]
            rw [e]; exact this
          refine ⟨D2, ss.drop (i + 1), rfl, σ.drop1, isL σ (.head _), by rw [List.length_drop, sizeLine]; omega, ?_, ?_, ?_⟩
          · intro C v s₃ m₃ E' hC2 hv hn hm hk
            obtain ⟨oL2, _, σC⟩ := σ.drop1.inC hC2 hn hm hk
            obtain ⟨x, u, rfl, hx⟩ := strs_mem2 hsd hv
            have hxl : x.length ≤ 4 := by
              obtain ⟨q, hq, rfl⟩ := List.mem_map.mp hx
              rw [dot_len]; exact hd2 q (List.mem_of_mem_drop hq)
            refine test1 (wpAny_isTrue_Compare1 (r_fnB σC (by k_is) boot_len (args_cons (r_loc σC (by walk_at "mm") (args_nil (P.len_str (by omega) ?_))))))
            have σC := σC.tok (s₃.toks + 1 + 1)
            exact r_cell (c := L' + 1) σC rfl (by walk_at "mm") ho5 (r_gt (wpAny_truthy_bool ⟨rfl, _, _, rfl, fun _ _ e => e⟩))
          · intro C v s₃ m₃ E' hC2 hv _ hn hm hk
            obtain ⟨oL2, _, σC⟩ := σ.drop1.inC hC2 hn hm hk
            exact r_loc σC (by walk_at "mm") ⟨rfl, _, _, rfl, fun _ _ e => e⟩
          · intro D3 s ys3 c3 hp3 σ
            rw [paired_eq hp3] at σ
            have hln := gtS_len j hsd
            have hlt : ((d.drop (i + 1)).filter fun y => decide (y > j)).length ≤ 4 := by
              refine Nat.le_trans (List.length_filter_le _ _) ?_
              rw [List.length_drop]; omega
            refine args_nil (r_len σ (.head _) (by simp only [List.size_toArray]; omega) fun t7 s σ => r_st σ.drop1 (by walk_at "rm") fun s σ => ?_)
            dsimp only
            have eh : ((dotS (d.getD i 0)).length : Int) - ((j : Nat) : Int) + ((((ss.drop (i + 1)).filter (gtS ((j : Nat) : Int))).toArray.size : Nat) : Int) = hk2 d i j := by
              unfold hk2
              rw [List.size_toArray, hln, hdl]
            have hkb : 0 ≤ hk2 d i j ∧ hk2 d i j ≤ 100 := by unfold hk2; omega
            refine wpAny_execs_cons (wpAny_AugAssign_Name (r_locN σ (by walk_at "mm") (wpAny_BinOp (wpAny_BinOp (r_fnB σ (by k_is) boot_len (args_cons (Subscript_ (r_loc σ (by walk_at "mm") (r_loc σ (by walk_at "mm") (r_itemG (hRs σ) (Int.natCast_nonneg _) (by omega) hia' (args_nil (P.len_str (by omega) ?_))))))))))))
            have σ := σ.tok (s.toks + 1 + 1)
            refine r_cell (c := L' + 1) σ rfl (by walk_at "mm") ho5 (r_sub σ fun t8 s σ => r_loc σ (by walk_at "mm") (r_add σ fun t9 s σ => ?_))
            rw [eh]
            refine r_imul σ (IntMulOk.of_right (intBits_le_64 (by omega) (by omega))) fun t10 s σ => r_st σ (by walk_at "rm") fun s σ => ?_
            dsimp only
            refine wpAny_execs_nil ⟨(j + 1, t10, o5), ⟨rfl, _, ho5⟩, ?_⟩
            have em : hPr d i * hRow d i (j + 1) = hPr d i * hRow d i j * hk2 d i j := by show _ * (_ * _) = _; rw [Int.mul_assoc]
            dsimp only
            rw [em]
            exact σ.loc (by walk_at "sub")
        · rintro ⟨j, tj, o4⟩ s ⟨hj0, hv4⟩ σ
          obtain rfl : j = d.getD i 0 := hj0
          exact wpAny_execs_nil ⟨rfl, tj, o4, hv4, σ.loc (by walk_at "sub")⟩
      · rintro s ⟨t3, o3, hv3, σ⟩
        exact wpAny_execs_nil ⟨(i + 1, t3, o3), ⟨rfl, hv3⟩, σ⟩
    · rintro ⟨i, tj, o4⟩ s ⟨hi0, _⟩ σ
      obtain rfl : i = d.length := hi0
      exact wpAny_execs_nil ⟨rfl, tj, o4, σ.loc (by walk_at "sub")⟩
  · rintro s ⟨t2, o2, σ⟩
    refine wpAny_execs_cons (wpAny_Return_some (r_loc σ (by walk_at "mm") (k t2 s ?_)))
    exact σ.drop1.back nL .head
end Mine
end
section
open PySem PySem.W PyProof.Rows PySem.Calls
set_option maxRecDepth 100000
set_option maxHeartbeats 4000000
namespace Mine
local macro_rules | `(tactic| walk_at "mm") => `(tactic| first | exact List.Mem.head _ | (refine List.Mem.tail _ ?_; walk_at "mm") | (refine List.mem_append_right _ ?_; walk_at "mm"))
local macro_rules | `(tactic| walk_at "nd") => `(tactic| (simp only [List.map_cons, List.map_nil]; decide))
local macro_rules | `(tactic| walk_at "rm") => `(tactic| first | exact Rm.nil | ((with_reducible refine' Rm.hit ?rmb); (case rmb => walk_at "rm")) | (refine' Rm.skip ?rma ?rmb; (case rma => decide); (case rmb => walk_at "rm")))
local macro_rules | `(tactic| walk_at "up") => `(tactic| first | (with_reducible exact Up.head) | (refine' Up.tail ?upa; (case upa => walk_at "up")) | (refine' Up.app ?upa _; (case upa => walk_at "up")))
local macro_rules | `(tactic| walk_at "pick") => `(tactic| first | (with_reducible exact Pick.head) | (refine' Pick.tail ?pka; (case pka => walk_at "pick")) | (refine' Pick.app ?pka _; (case pka => walk_at "pick")))
local macro_rules | `(tactic| walk_at "sub") => `(tactic| first | exact List.forall_mem_nil _ | (refine List.forall_mem_cons.mpr ⟨?sba, ?sbb⟩; (case sba => walk_at "mm"); (case sbb => walk_at "sub")))

structure DOk (d : List Nat) : Prop where
  len : d.length ≤ 4
  small : ∀ n ∈ d, n ≤ 4
structure LaidOk (d : List Nat) : Prop where
  gr : Txt.split (qd (Txt.join "\n" (dots d))) "\r\n" = dots (grownP d)
  q1 : (Txt.join "\n" (dots d)).cps.size ≤ 100
  q2 : (subs nxt2 "\r\n" (Txt.join "\n" (dots d))).cps.size ≤ 200
  q3 : (qd (Txt.join "\n" (dots d))).length ≤ 400
theorem map_sub {g g' : Heap} (k : Sub g g') : ∀ {vs : List Value}, (∀ v ∈ vs, ItP g v) → vs.map (itF g') = vs.map (itF g)
  | [], _ => rfl
  | v :: vs, h => by rw [List.map_cons, List.map_cons, itF_sub k (h v (.head _)), map_sub k fun u hu => h u (.tail _ hu)]
theorem lawstep {w : World} {mg mb : Str → Option Value} {os : OsState} {gs : Array GenState} {g : Heap} {A : Around} {L : Addr} {l : List (Str × Value)} {news : List (Addr × Obj)} {s : Shared} {Q E : Value → Shared → Prop} {St : Addr} {sv : List Value} {xs ys : List (List Nat × Int)} {up : Bool}
    (σ : Sx (hd.heap_39 w.params) mg mb os gs g L l news s) (ρ : Room A 5) (hS : g.IsList St sv.toArray) (hI : ItemsAre g sv xs) (hok : ∀ x ∈ xs, DOk x.1 ∧ (up = true → LaidOk x.1)) (hb : xs.length ≤ 10) (hb2 : ∀ x ∈ xs, (moves up x.1).length ≤ 6) (hr : stepP up xs = some ys)
    (k : ∀ g' T tv c s', Sub g g' → ItemsAre g' tv ys → Sx (hd.heap_39 w.params) mg mb os gs g' L l ((T, listOf (List.toArray tv) c) :: news) s' → Q (.ref T) s') :
    wpAny (model P1 w) A (call (.ref 144) [.ref St, .bool up]) Q E s := by
  have hsl := hI.len
  refine r_call (binds := [("states", .ref St), ("up", .bool up)]) σ ρ (by k_is) (by k_is) (BindsTo.of_eq rfl) (locs rfl) (by walk_at "nd") (fun L' oL s nL ρ σ => ?_) rfl rfl rfl (by decide)
  refine wpAny_execs_cons (wpAny_Assign_Name (List_ (args_nil (r_newList σ (by decide) fun H s σ => r_st σ (by walk_at "rm") fun s σ => ?_))))
  dsimp only
  refine r_seq (fun s => ∃ (g' : Heap) (hv : List Value) (c : Nat), Sub g g' ∧ (∀ v ∈ hv, ItP g' v) ∧ hv.map (itF g') = pushAll up xs [] ∧ hv.length ≤ 60 ∧ Sx (hd.heap_39 w.params) mg mb os gs g' L' [("heap", .ref H)] ((H, listOf hv.toArray c) :: (L, oL) :: news) s) ?_ ?_
  · refine r_forI2 (K := hd.heap_39 w.params) (mg := mg) (mb := mb) (os := os) (gs := gs) (L := L') (g := g) (ρ.le (by omega)) (fun i (x : Heap × List Value × Nat) => Sub g x.1 ∧ (∀ v ∈ x.2.1, ItP x.1 v) ∧ pushAll up (xs.drop i) (x.2.1.map (itF x.1)) = pushAll up xs [] ∧ x.2.1.length ≤ 6 * i) (fun x => x.1) (fun _ => [("heap", .ref H), ("states", .ref St), ("up", .bool up)]) (fun x => (H, listOf x.2.1.toArray x.2.2) :: (L, oL) :: news) (g, [], 0) ⟨Sub.refl _, fun _ h => (by cases h), rfl, Nat.le_refl _⟩ (fun _ _ h => h.1) hS (r_loc σ (by walk_at "mm") ⟨rfl, σ⟩) ?_ ?_
    · rintro i ⟨gx, hv, c⟩ own v s hi ⟨c1, c2, c3, c4⟩ hvi σ
      dsimp only at c1 c2 c3 c4 σ
      obtain ⟨x, hxi, hit⟩ := hI.get i hvi
      have hxm : x ∈ xs := List.mem_of_getElem? hxi
      have hil : i < xs.length := by omega
      have ex : xs[i] = x := by rw [List.getElem?_eq_getElem hil] at hxi; injection hxi
      rw [List.drop_eq_getElem_cons hil, ex, pushAll] at c3
      obtain ⟨T, Rv, tw, rfl, hT, hRv⟩ := hit.sub c1
      obtain ⟨dok, lok⟩ := hok x hxm
      have hml := hb2 x hxm
      refine r_two σ (ρ.le (by omega)) (hT.at fun o e => σ.keep _ _ e) fun s σ => r_st σ (by walk_at "rm") fun s σ => r_st σ (by walk_at "rm") fun s σ => ?_
      refine r_seq (fun s => ∃ (g' : Heap) (hv' : List Value) (c' : Nat), Sub gx g' ∧ (∀ v ∈ hv', ItP g' v) ∧ hv'.map (itF g') = pushR x.2 (moves up x.1) (hv.map (itF gx)) ∧ hv'.length ≤ hv.length + 6 ∧ Sx (hd.heap_39 w.params) mg mb os gs g' L' [("heap", .ref H), ("states", .ref St), ("up", .bool up)] (own ++ (H, listOf hv'.toArray c') :: (L, oL) :: news) s) ?_ ?_
      · refine r_forX (K := hd.heap_39 w.params) (mg := mg) (mb := mb) (os := os) (gs := gs) (L := L') (ρ.le (by omega)) (Heap × List Value × Nat) ?_
        refine wpAny_mono (show wpAny _ _ _ (fun xv s' => ∃ g1 D ms cD, xv = .ref D ∧ Sub gx g1 ∧ RowsAre g1 ms (moves up x.1) ∧ Sx (hd.heap_39 w.params) mg mb os gs g1 L' [("ways", .int x.2 tw), ("rows", Rv), ("heap", .ref H), ("states", .ref St), ("up", .bool up)] ((D, listOf (List.toArray ms) cD) :: (own ++ (H, listOf hv.toArray c) :: (L, oL) :: news)) s') (fun _ _ => False) _ from ?_) (fun xv s' hx => ?_) fun _ _ z => z
        · refine wpAny_IfExp (isTrue_plain (r_loc σ (by walk_at "mm") (wpAny_truthy_bool ?_)))
          cases hup : up with
          | true =>
            simp only [if_true]
            have lk := lok hup
            subst hup
            exact r_fn σ (by k_is) (by k_is) (args_cons (r_loc σ (by walk_at "mm") (args_nil ⟨σ.keep, laid σ (ρ.le (by omega)) hRv dok.len dok.small lk.gr lk.q1 lk.q2 lk.q3 fun g1 D ms cD s h1 h2 σ => ⟨g1, D, ms, cD, rfl, h1, h2, σ⟩⟩)))
          | false =>
            simp only [Bool.false_eq_true, if_false]
            subst hup
            exact r_fn σ (by k_is) (by k_is) (args_cons (r_loc σ (by walk_at "mm") (args_nil ⟨σ.keep, taken σ (ρ.le (by omega)) hRv dok.len dok.small fun g1 D ms cD s h1 h2 σ => ⟨g1, D, ms, cD, rfl, h1, h2, σ⟩⟩)))
        · obtain ⟨g1, D, ms, cD, rfl, h1, h2, σ⟩ := hx
          obtain ⟨g2, h3, σ, hDg⟩ := Sx.freeze (fz := [(D, listOf ms.toArray cD)]) σ
          have hDl : g2.IsList D ms.toArray := ⟨_, hDg _ (.head _), rfl, _, rfl⟩
          have h13 := h1.trans h3
          have hmsl := h2.len
          refine ⟨g2, D, ms, fun j y => Sub g2 y.1 ∧ (∀ v ∈ y.2.1, ItP y.1 v) ∧ pushR x.2 ((moves up x.1).drop j) (y.2.1.map (itF y.1)) = pushR x.2 (moves up x.1) (hv.map (itF gx)) ∧ y.2.1.length ≤ hv.length + j, fun y => y.1, fun _ => [("ways", .int x.2 tw), ("rows", Rv), ("heap", .ref H), ("states", .ref St), ("up", .bool up)], fun y => own ++ (H, listOf y.2.1.toArray y.2.2) :: (L, oL) :: news, (g2, hv, c), rfl, ⟨Sub.refl _, fun v hm => let ⟨z, hz⟩ := c2 v hm; ⟨z, hz.sub h13⟩, by show pushR _ _ (hv.map (itF g2)) = _; rw [map_sub h13 c2]; rfl, Nat.le_refl _⟩, fun _ _ h => h.1, hDl, σ, ?_, ?_⟩
          · rintro j ⟨gy, hy, cy⟩ own2 mv s hj ⟨e1, e2, e3, e4⟩ hmv σ
            dsimp only at e1 e2 e3 e4 σ
            obtain ⟨m, hmj, hmr⟩ := h2.get j hmv
            have hjl : j < (moves up x.1).length := by omega
            have em : (moves up x.1)[j] = m := by rw [List.getElem?_eq_getElem hjl] at hmj; injection hmj
            rw [List.drop_eq_getElem_cons hjl, em, pushR] at e3
            refine r_st σ (by walk_at "rm") fun s σ => ?_
            refine wpAny_execs_cons (wpAny_Expr (r_fn σ (by k_is) (by k_is) (args_cons (r_loc σ (by walk_at "mm") (args_cons (Tuple_ (args_cons (r_loc σ (by walk_at "mm") (args_cons (r_loc σ (by walk_at "mm") (args_nil (r_newTuple σ (by show 2 ≤ 2 ^ 24; decide) fun TT s σ => args_nil ?_))))))))))))
            obtain ⟨g3, h4, σ, hTg⟩ := Sx.freeze (fz := [(TT, tupOf #[mv, .int x.2 tw] 0)]) σ
            have hTT : IsItem g3 (.ref TT) (m, x.2) := ⟨TT, mv, tw, rfl, ⟨_, hTg _ (.head _), rfl, _, rfl⟩, hmr.sub ((h3.trans e1).trans h4)⟩
            have e2' : ∀ v ∈ hy, ItP g3 v := fun v hm => let ⟨z, hz⟩ := e2 v hm; ⟨z, hz.sub h4⟩
            have hpk : Pick (H, listOf hy.toArray cy) (own2 ++ (own ++ (H, listOf hy.toArray cy) :: (L, oL) :: news)) (own2 ++ (own ++ (L, oL) :: news)) := Pick.app (Pick.app .head own) own2
            refine ⟨h4.trans σ.keep, heappush (v := .ref TT) (ItP g3) (fun a b => ltI (itF g3 a) (itF g3 b)) (σ.pick hpk) (ρ.le (by omega)) (fun a b ha hb => cmpI ha hb) e2' ⟨_, hTT⟩ (by omega) fun s σ => ?_⟩
            dsimp only
            refine wpAny_execs_nil ⟨(g3, hpush (fun a b => ltI (itF g3 a) (itF g3 b)) hy (.ref TT), cy + 1), ⟨e1.trans h4, hpush_mem _ _ _ _ e2' ⟨_, hTT⟩, ?_, by show (hpush _ _ _).length ≤ _; rw [hpush_len]; omega⟩, ?_⟩
            · show pushR _ _ ((hpush (fun a b => ltI (itF g3 a) (itF g3 b)) hy (.ref TT)).map (itF g3)) = _
              rw [hpush_map (d := ([], 0)) (itF_none g3), itF_eq hTT, map_sub h4 e2]
              exact e3
            · have pm : (own2 ++ (own ++ (H, listOf (hpush (fun a b => ltI (itF g3 a) (itF g3 b)) hy (.ref TT)).toArray (cy + 1)) :: (L, oL) :: news)).Perm ((H, listOf (hpush (fun a b => ltI (itF g3 a) (itF g3 b)) hy (.ref TT)).toArray (cy + 1)) :: (own2 ++ (own ++ (L, oL) :: news))) :=
                (List.Perm.append_left own2 List.perm_middle).trans List.perm_middle
              exact (σ.perm pm).loc (by walk_at "sub")
          · rintro ⟨gy, hy, cy⟩ s ⟨e1, e2, e3, e4⟩ σ
            dsimp only at e1 e2 e3 e4 σ
            rw [hmsl, List.drop_length] at e3
            exact wpAny_execs_nil ⟨rfl, gy, hy, cy, h13.trans e1, e2, e3, by omega, σ.loc (by walk_at "sub")⟩
      · rintro s ⟨g', hv', c', h1, h2, h3, h4, σ⟩
        refine wpAny_execs_nil ⟨(g', hv', c'), ⟨c1.trans h1, h2, ?_, by show hv'.length ≤ _; omega⟩, σ⟩
        show pushAll up _ (hv'.map (itF g')) = _
        rw [h3]; exact c3
    · rintro ⟨gx, hv, c⟩ s ⟨c1, c2, c3, c4⟩ σ
      dsimp only at c1 c2 c3 c4 σ
      rw [hsl, List.drop_length] at c3
      exact wpAny_execs_nil ⟨rfl, gx, hv, c, c1, c2, c3, by omega, σ.loc (by walk_at "sub")⟩
  · rintro s ⟨g1, hv, c, hg1, hP, hm, hlen, σ⟩
    refine wpAny_execs_cons (wpAny_Assign_Name (List_ (args_nil (r_newList σ (by decide) fun T s σ => r_st σ (by walk_at "rm") fun s σ => ?_))))
    dsimp only
    refine r_seq (fun s => ∃ (g' : Heap) (tv : List Value) (c1 c2 : Nat), Sub g g' ∧ ItemsAre g' tv ys ∧ Sx (hd.heap_39 w.params) mg mb os gs g' L' [("told", .ref T)] ((T, listOf tv.toArray c1) :: (H, listOf #[] c2) :: (L, oL) :: news) s) ?_ ?_
    · refine r_while (fun n s => ∃ (g' : Heap) (hv tv : List Value) (c1 c2 : Nat) (xt : List (List Nat × Int)), Sub g g' ∧ (∀ v ∈ hv, ItP g' v) ∧ ItemsAre g' tv xt ∧ popAll n (hv.map (itF g')) xt = some ys ∧ hv.length ≤ 60 ∧ tv.length + n ≤ 20 ∧ Sx (hd.heap_39 w.params) mg mb os gs g' L' [("told", .ref T), ("heap", .ref H)] ((T, listOf tv.toArray c1) :: (H, listOf hv.toArray c2) :: (L, oL) :: news) s) ?_ 20 ?_
      · rintro n s ⟨gx, hv, tv, c1, c2, xt, hgx, hP, hT, hr, b1, b2, σ⟩
        refine wpAny_isTrue_Compare1 (r_loc σ (by walk_at "mm") (List_ (args_nil (r_newList σ (by decide) fun N s σ => r_neNil2 (vs := hv) (ρ.le (by omega)) (isL σ (by walk_at "mm")) (isL σ (.head _)) (wpAny_truthy_bool ?_)))))
        have σ := σ.drop1
        have hcc : hv = [] ∨ ∃ pv y, hv = pv ++ [y] := (List.eq_nil_or_concat hv).imp id fun ⟨pv, y, e⟩ => ⟨pv, y, e.trans (List.concat_eq_append ..)⟩
        rcases hcc with rfl | ⟨pv, y, rfl⟩
        · simp only [List.isEmpty_nil, Bool.not_true, Bool.false_eq_true, if_false]
          rw [List.map_nil, popAll_nil] at hr
          cases hr
          exact ⟨trivial, gx, tv, c1, c2, hgx, hT, σ.loc (by walk_at "sub")⟩
        · have hne : (pv ++ [y]).isEmpty = false := by simp
          rw [hne]
          simp only [Bool.not_false, if_true]
          have hPp : ∀ v ∈ pv, ItP gx v := fun v hv => hP v (List.mem_append_left _ hv)
          have hPy : ItP gx y := hP y (List.mem_append_right _ (.head _))
          have hgp := hpop_map (lt := ltI) (f := itF gx) (d := ([], 0)) (itF_none gx) pv y
          obtain ⟨hm1, hm2, hm3⟩ := hpop_mem (fun a b => ltI (itF gx a) (itF gx b)) (ItP gx) pv y hPp hPy
          obtain ⟨⟨d, wd⟩, hit⟩ := hm1
          rw [itF_eq hit] at hgp
          obtain ⟨n', rfl, hr'⟩ := popAll_cons hr hgp (z := itF gx y) (List.mem_map_of_mem (List.mem_append_right _ (.head _)))
          have hpl : pv.length + 1 ≤ 60 := by simpa using b1
          obtain ⟨T0, Rv, tw, ev, hT0, hRv⟩ := hit
          refine wpAny_execs_cons (Assign_Tuple (r_fn σ (by k_is) (by k_is) (args_cons (r_loc σ (by walk_at "mm") (args_nil ⟨σ.keep, heappop (ItP gx) (fun a b => ltI (itF gx a) (itF gx b)) (σ.pick (Pick.tail Pick.head)) (ρ.le (by omega)) (fun a b ha hb => cmpI ha hb) hPp hPy (by omega) fun s σ => ?_⟩)))))
          rw [ev]
          refine r_two σ (ρ.le (by omega)) (hT0.at fun o e => σ.keep _ _ e) fun s σ => r_st σ (by walk_at "rm") fun s σ => r_st σ (by walk_at "rm") fun s σ => ?_
          dsimp only
          generalize hhv : (hpop (fun a b => ltI (itF gx a) (itF gx b)) pv y).2 = hv' at *
          obtain ⟨R0, rs, rfl, hR0, hrs⟩ := hRv
          refine r_seq (fun s => ∃ (tv' : List Value) (c1' : Nat) (pre : List (List Nat × Int)) (wf : Int) (tf : Tok), ItemsAre gx tv' pre ∧ addT xt (d, wd) = pre ++ [(d, wf)] ∧ tv'.length ≤ tv.length ∧ Sx (hd.heap_39 w.params) mg mb os gs gx L' [("ways", .int wf tf), ("rows", .ref R0), ("told", .ref T), ("heap", .ref H)] ((H, listOf hv'.toArray (c2 + 1)) :: (T, listOf tv'.toArray c1') :: (L, oL) :: news) s) ?_ ?_
          · refine wpAny_If (r_and1 (wpAny_isTrue_Compare1 (r_loc σ (by walk_at "mm") (List_ (args_nil (r_newList σ (by decide) fun N s σ => r_neNil2 (vs := tv) (ρ.le (by omega)) (isL σ (by walk_at "mm")) (isL σ (.head _)) (wpAny_truthy_bool ?_)))))))
            have σ := σ.drop1
            have hxc : xt = [] ∨ ∃ p z, xt = p ++ [z] := (List.eq_nil_or_concat xt).imp id fun ⟨pv, y, e⟩ => ⟨pv, y, e.trans (List.concat_eq_append ..)⟩
            rcases hxc with rfl | ⟨px, z, rfl⟩
            · cases hT
              simp only [List.isEmpty_nil, Bool.not_true, Bool.false_eq_true, if_false]
              exact wpAny_execs_nil ⟨rfl, [], c1, [], wd, tw, .nil, rfl, Nat.le_refl _, σ.loc (by walk_at "sub")⟩
            · obtain ⟨ptv, vz, rfl, hptv, hvz⟩ := hT.snoc
              have hne2 : (ptv ++ [vz]).isEmpty = false := by simp
              rw [hne2]
              simp only [Bool.not_false, if_true]
              obtain ⟨Tz, Rz, tz, rfl, hTz, Rz0, zs, rfl, hRz, hzs⟩ := hvz
              refine wpAny_isTrue_Compare1 (Subscript_ (Subscript_ (r_loc σ (by walk_at "mm") (r_neg σ fun t5 s σ => r_neg1 (a := T) σ (by walk_at "mm") (r_int σ fun t6 s σ => r_tupi (hTz.at fun o e => σ.keep _ _ e) (.inl ⟨rfl, rfl⟩) (r_loc σ (by walk_at "mm") (r_eqRows (ρ.le (by omega)) (hRz.at fun o e => σ.keep _ _ e) hzs (hR0.at fun o e => σ.keep _ _ e) hrs (wpAny_truthy_bool ?_))))))))
              by_cases hzd : z.1 = d
              · rw [decide_eq_true hzd]
                simp only [if_true]
                refine wpAny_execs_cons (wpAny_AugAssign_Name (r_locN σ (by walk_at "mm") (Subscript_ (r_meth (a := T) σ (by walk_at "mm") PySem.F.slot_list_pop PySem.F.type_list_pop (r_loc σ (by walk_at "mm") ⟨rfl, rfl⟩) (r_with0 (r_pop σ (by walk_at "up") (by rw [sizeLine]; have := b2; simp at this; omega) fun s σ => r_int σ fun t7 s σ => r_tupi (hTz.at fun o e => σ.keep _ _ e) (.inr ⟨rfl, rfl⟩) (r_iadd σ fun t8 s σ => r_st σ (by walk_at "rm") fun s σ => ?_)))))))
                dsimp only
                refine wpAny_execs_nil ⟨rfl, ptv, c1 + 1, px, wd + z.2, t8, hptv, ?_, by simp, σ.loc (by walk_at "sub")⟩
                rw [addT_snoc, if_pos hzd]
              · rw [decide_eq_false hzd]
                simp only [Bool.false_eq_true, if_false]
                refine wpAny_execs_nil ⟨rfl, ptv ++ [.ref Tz], c1, px ++ [z], wd, tw, hT, ?_, Nat.le_refl _, σ.loc (by walk_at "sub")⟩
                rw [addT_snoc, if_neg hzd]
          · rintro s ⟨tv', c1', pre, wf, tf, hpre, hadd, htl, σ⟩
            refine wpAny_execs_cons (wpAny_Expr (r_meth (a := T) σ (by walk_at "mm") PySem.F.slot_list_append PySem.F.type_list_append (r_loc σ (by walk_at "mm") ⟨rfl, rfl⟩) (r_with1 (Tuple_ (args_cons (r_loc σ (by walk_at "mm") (args_cons (r_loc σ (by walk_at "mm") (args_nil (r_newTuple σ (by show 2 ≤ 2 ^ 24; decide) fun TT s σ => r_append (a := T) σ (by walk_at "up") (by rw [sizeLine]; omega) fun s σ => ?_))))))))))
            dsimp only
            obtain ⟨g3, h4, σ, hTg⟩ := Sx.freeze (fz := [(TT, tupOf #[.ref R0, .int wf tf] 0)]) σ
            have hTT : IsItem g3 (.ref TT) (d, wf) := ⟨TT, .ref R0, tf, rfl, ⟨_, hTg _ (.head _), rfl, _, rfl⟩, IsRows.sub (g := gx) ⟨R0, rs, rfl, hR0, hrs⟩ h4⟩
            refine wpAny_execs_nil ⟨n', Nat.lt_succ_self _, g3, hv', tv' ++ [.ref TT], c1' + 1, c2 + 1, pre ++ [(d, wf)], hgx.trans h4, fun v hm => let ⟨q, hq⟩ := hm2 v hm; ⟨q, hq.sub h4⟩, (hpre.sub h4).app (.cons hTT .nil), ?_, by omega, by rw [List.length_append, List.length_singleton]; omega, (σ.perm (List.Perm.swap _ _ _)).loc (by walk_at "sub")⟩
            rw [map_sub h4 hm2, ← hadd]; exact hr'
      · exact ⟨g1, hv, [], 0, c, [], hg1, hP, .nil, by rw [hm]; exact hr, hlen, by simp, σ.loc (by walk_at "sub")⟩
    · rintro s ⟨g', tv, c1, c2, h1, h2, σ⟩
      refine wpAny_execs_cons (wpAny_Return_some (r_loc σ (by walk_at "mm") (k g' T tv c1 s h1 h2 ?_)))
      exact ((σ.pick (Pick.tail Pick.head)).drop1).back nL (by walk_at "pick")
end Mine
end
section
open PySem PySem.W PyProof.Rows PySem.Calls PySem.SeqAt
set_option maxRecDepth 100000
namespace Mine
def smallParts : List (List Nat) := [[], [1], [2], [1, 1], [3], [2, 1], [1, 1, 1]]
def allParts : List (List Nat) := smallParts ++ [[4], [3, 1], [2, 2], [2, 1, 1], [1, 1, 1, 1]]
def tblN (n : Nat) : Nat := [1, 1, 2, 3, 5].getD n 0
def inOk (up : Bool) (xs : List (List Nat × Int)) : Bool := decide (xs.length ≤ 10) && xs.all fun x => allParts.contains x.1 && (!up || smallParts.contains x.1)
def outOk (ys : List (List Nat × Int)) (dn : Nat) (pr : Int) : Bool := decide (ys.length = tblN dn) && ys.all fun x => decide (x.2 * hPr x.1 x.1.length = pr) && allParts.contains x.1 && decide (x.2.natAbs < 1000000)
def goOk (next : List (List Nat × Int) → Nat → Int → Bool) (xs : List (List Nat × Int)) (dn : Nat) (pr : Int) (up : Bool) : Bool :=
  inOk up xs && (match stepP up xs with
    | none => false
    | some ys => match (if up then dn + 1 else dn - 1) with
      | dn' => match (if up then pr * (dn' : Int) else pr) with
        | pr' => outOk ys dn' pr' && next ys dn' pr')
def treeOk : Nat → List (List Nat × Int) → Nat → Int → Bool
  | 0, _, _, _ => true
  | k + 1, xs, dn, pr => decide (dn ≤ 4) && (if dn = 0 then goOk (treeOk k) xs dn pr true else if dn < 4 then goOk (treeOk k) xs dn pr true && goOk (treeOk k) xs dn pr false else goOk (treeOk k) xs dn pr false)
theorem go_of {next : List (List Nat × Int) → Nat → Int → Bool} {xs : List (List Nat × Int)} {dn : Nat} {pr : Int} {up : Bool} (ys : List (List Nat × Int)) (dn' : Nat) (pr' : Int)
    (h1 : (inOk up xs && decide (stepP up xs = some ys) && outOk ys dn' pr') = true) (hd : (if up then dn + 1 else dn - 1) = dn') (hp : (if up then pr * (dn' : Int) else pr) = pr') (h2 : next ys dn' pr' = true) : goOk next xs dn pr up = true := by
  rw [Bool.and_eq_true, Bool.and_eq_true, decide_eq_true_eq] at h1
  unfold goOk
  rw [h1.1.1, h1.1.2]
  dsimp only
  rw [hd, hp, h1.2, h2]
  rfl
theorem tree_zero {k : Nat} {xs : List (List Nat × Int)} {pr : Int} (h : goOk (treeOk k) xs 0 pr true = true) : treeOk (k + 1) xs 0 pr = true := by
  unfold treeOk
  rw [if_pos rfl, h]; rfl
theorem tree_mid {k : Nat} {xs : List (List Nat × Int)} {dn : Nat} {pr : Int} (h0 : dn ≠ 0) (h4 : dn < 4) (h : goOk (treeOk k) xs dn pr true = true) (h' : goOk (treeOk k) xs dn pr false = true) : treeOk (k + 1) xs dn pr = true := by
  unfold treeOk
  rw [if_neg h0, if_pos h4, h, h', decide_eq_true (by omega)]; rfl
theorem tr5_4_1 : treeOk 5 [([1, 1, 1, 1], 1), ([2, 1, 1], 3), ([2, 2], 2), ([3, 1], 3), ([4], 1)] 4 24 = true := by decide +kernel
theorem tr5_2_3 : treeOk 5 [([1, 1], 3), ([2], 3)] 2 6 = true := by decide +kernel
theorem tr5_2_2 : treeOk 5 [([1, 1], 2), ([2], 2)] 2 4 = true := by decide +kernel
theorem tr5_0_2 : treeOk 5 [([], 2)] 0 2 = true := by decide +kernel
theorem tr5_2_1 : treeOk 5 [([1, 1], 1), ([2], 1)] 2 2 = true := by decide +kernel
theorem tr5_0_1 : treeOk 5 [([], 1)] 0 1 = true := by decide +kernel
theorem tr6_3_1 : treeOk 6 [([1, 1, 1], 1), ([2, 1], 2), ([3], 1)] 3 6 = true := tree_mid (by decide) (by decide) (go_of [([1, 1, 1, 1], 1), ([2, 1, 1], 3), ([2, 2], 2), ([3, 1], 3), ([4], 1)] 4 24 (by decide +kernel) rfl rfl tr5_4_1) (go_of [([1, 1], 3), ([2], 3)] 2 6 (by decide +kernel) rfl rfl tr5_2_3)
theorem tr6_1_2 : treeOk 6 [([1], 2)] 1 2 = true := tree_mid (by decide) (by decide) (go_of [([1, 1], 2), ([2], 2)] 2 4 (by decide +kernel) rfl rfl tr5_2_2) (go_of [([], 2)] 0 2 (by decide +kernel) rfl rfl tr5_0_2)
theorem tr6_1_1 : treeOk 6 [([1], 1)] 1 1 = true := tree_mid (by decide) (by decide) (go_of [([1, 1], 1), ([2], 1)] 2 2 (by decide +kernel) rfl rfl tr5_2_1) (go_of [([], 1)] 0 1 (by decide +kernel) rfl rfl tr5_0_1)
theorem tr7_2_1 : treeOk 7 [([1, 1], 1), ([2], 1)] 2 2 = true := tree_mid (by decide) (by decide) (go_of [([1, 1, 1], 1), ([2, 1], 2), ([3], 1)] 3 6 (by decide +kernel) rfl rfl tr6_3_1) (go_of [([1], 2)] 1 2 (by decide +kernel) rfl rfl tr6_1_2)
theorem tr7_0_1 : treeOk 7 [([], 1)] 0 1 = true := tree_zero (go_of [([1], 1)] 1 1 (by decide +kernel) rfl rfl tr6_1_1)
theorem tr8_1_1 : treeOk 8 [([1], 1)] 1 1 = true := tree_mid (by decide) (by decide) (go_of [([1, 1], 1), ([2], 1)] 2 2 (by decide +kernel) rfl rfl tr7_2_1) (go_of [([], 1)] 0 1 (by decide +kernel) rfl rfl tr7_0_1)
theorem tree9 : treeOk 9 [([], 1)] 0 1 = true := tree_zero (go_of [([1], 1)] 1 1 (by decide +kernel) rfl rfl tr8_1_1)
theorem parts_ok : ∀ d ∈ allParts, d.length ≤ 4 ∧ (∀ n ∈ d, n ≤ 4) ∧ (takenTo d d.length).length ≤ 6 ∧ (laidTo d d.length).length ≤ 6 := by decide +kernel
theorem laid_ok : ∀ d ∈ smallParts, Txt.split (qd (Txt.join "\n" (dots d))) "\r\n" = dots (grownP d) ∧ (Txt.join "\n" (dots d)).cps.size ≤ 100 ∧ (subs nxt2 "\r\n" (Txt.join "\n" (dots d))).cps.size ≤ 200 ∧ (qd (Txt.join "\n" (dots d))).length ≤ 400 := by decide +kernel
end Mine
end
section
open PySem PySem.W PyProof.Rows PySem.Calls
set_option maxRecDepth 100000
namespace Mine
section
variable {prog : Program} {w : World} {A : Around} {E : Value → Shared → Prop} {s : Shared}
/-- the loop of [elt for (x, y) in .. if test]: its turns, if the test never holds -/
theorem compNo {elt iter test : Expr} {elts : List Expr} {x1 : Nat} {tp : Pos} {scope : Scope} {pos : Pos} {it acc : Value} {env : Env} {R : Result → Shared → Prop} (I : Nat → Shared → Prop)
    (turn : ∀ n s, I n s → wpAny (model prog w) A (pyNext it) (fun r s₁ => match r with
      | none => R (.ok .next) s₁
      | some v => wpAny (model prog w) A (letOwnedTupleGo (.Tuple elts x1 tp) it v) (fun _ s₁' => wpAny (model prog w) A (assign (.Tuple elts x1 tp) env v) (fun _ s₂ =>
          wpAny (model prog w) A (isTrue test env (eval test env)) (fun ok s₃ => ok = false ∧ ∃ m, m < n ∧ I m s₃) (notedBy (model prog w) A env fun e s' => R (.error e) s') s₂)
          (notedBy (model prog w) A env fun e s' => R (.error e) s') s₁') (notedBy (model prog w) A env fun e s' => R (.error e) s') s₁) (notedBy (model prog w) A env fun e s' => R (.error e) s') s)
    (n : Nat) (h : I n s) : codeAny (model prog w) A (.compLoop (.ListComp elt [⟨.Tuple elts x1 tp, iter, [test], 0⟩] scope pos) 0 it acc env) R s := by
  refine codeAny_loop rfl I (fun n s hI => ?_) n h
  show wpAny _ A ((compTurn (.ListComp elt [⟨.Tuple elts x1 tp, iter, [test], 0⟩] scope pos) 0 it acc env).onRaise (fun x => do noteFrame x env; theTreesLotGoes x)) _ _ s
  refine wpAny_noted ?_
  rw [compTurn_list]
  refine wpAny_bind (wpAny_standAt (wpAny_bind (wpAny_mono (turn n s hI) (fun r s₁ h₁ => ?_) fun _ _ h' => h')))
  cases r with
  | none => exact wpAny_pure h₁
  | some v =>
    refine wpAny_bind (wpAny_mono h₁ (fun _ s₁' h₁' => ?_) fun _ _ h' => h')
    refine wpAny_bind (wpAny_mono h₁' (fun _ s₂ h₂ => wpAny_bind (wpAny_mono (test1 h₂) (fun ok s₃ h₃ => ?_) fun _ _ h' => h')) fun _ _ h' => h')
    obtain ⟨rfl, h₃⟩ := h₃
    exact wpAny_pure ⟨rfl, h₃⟩
end
section
variable {prog : Program} {w : World} {A : Around} {E : Value → Shared → Prop}
  {K : Frag} {mg mb : Str → Option Value} {os : OsState} {gs : Array GenState} {g : Heap} {L : Addr} {l l' : List (Str × Value)} {news news' : List (Addr × Obj)} {s : Shared} {env : Env}
theorem Sx.inC0 {C : Addr} {m₃ : Str → Option Value} {s₃ : Shared} (σ : Sx K mg mb os gs g L l news s) (hC : s.heap.get? C = none) (hn : s₃.heap.Ns C m₃) (hk : Sub s.heap s₃.heap) (ho : s₃.os = s.os) (hg : s₃.gens = s.gens) :
    ∃ oL, NsO oL l ∧ Sx K mg mb os gs g C [] ((L, oL) :: news) s₃ := by
  obtain ⟨oL, hoL, n⟩ := σ.ns
  have gC : g.get? C = none := by
    cases q : g.get? C with
    | none => rfl
    | some z => exact absurd (hC.symm.trans (σ.keep _ _ q)) (by simp)
  have ne : ∀ {b : Addr} {o : Obj}, s.heap.get? b = some o → b ≠ C := fun e q => by rw [q, hC] at e; cases e
  refine ⟨oL, n, ns_of hn (fun p hp => by cases hp), σ.keep.trans hk, gC, fun p hp => ?_, ?_, σ.t, ho.trans σ.os, hg.trans σ.gs⟩
  · cases hp with
    | head => exact ⟨hk _ _ hoL, ne hoL, σ.gL⟩
    | tail _ hp => exact ⟨hk _ _ (σ.nw p hp).1, ne (σ.nw p hp).1, (σ.nw p hp).2.2⟩
  · rw [List.map_cons, List.nodup_cons]
    refine ⟨fun hm => ?_, σ.nd⟩
    obtain ⟨p, hp, e⟩ := List.mem_map.mp hm
    exact (σ.nw p hp).2.1 e
theorem r_compNone {elt iter test : Expr} {elts : List Expr} {x1 : Nat} {tp : Pos} {scope : Scope} {cl : List (Str × Addr)} {pos : Pos} {a : Addr} {its : List Value} {Q : Value → Shared → Prop} (ρ : Room A 0)
    (he : wpAny (model prog w) A (eval iter env) (fun xv s₁ => xv = .ref a ∧ Sx K mg mb os gs g L l news s₁) E s) (hl : g.IsList a its.toArray)
    (turn : ∀ (C : Addr) (oL : Obj) (own : List (Addr × Obj)) (D : Addr) (i : Nat) (v : Value) (s₃ : Shared), NsO oL l → its[i]? = some v → Sx K mg mb os gs g C [] (own ++ (D, listOf #[] 0) :: (L, oL) :: news) s₃ →
      wpAny (model prog w) A (assign (.Tuple elts x1 tp) (compEnvC scope cl C env) v) (fun _ s₄ => wpAny (model prog w) A (isTrue test (compEnvC scope cl C env) (eval test (compEnvC scope cl C env))) (fun ok s₅ => ok = false ∧ Sx K mg mb os gs g C [] (own ++ (D, listOf #[] 0) :: (L, oL) :: news) s₅) (fun _ _ => False) s₄) (fun _ _ => False) s₃)
    (k : ∀ D s', Sx K mg mb os gs g L l ((D, listOf #[] 0) :: news) s' → Q (.ref D) s')
    (hclos : closureFor scope env = pure cl := by rfl) (hcell : ∀ y ∈ scope.names, y.2 ≠ .cell := by decide) (hkind : scope.kind = .function := by rfl)
    (hnames : ∀ y ∈ scope.names, y.2 = .local → scope.names.lookup y.1 = some .local := by decide) (hs : ∀ x, foldedSetIterable iter env x = pure x := by intro _; rfl) :
    wpAny (model prog w) A (eval (.ListComp elt [⟨.Tuple elts x1 tp, iter, [test], 0⟩] scope pos) env) Q E s := by
  rw [eval_ListComp]
  refine wpAny_comprehension_free (use := none) rfl hs hclos hkind hnames (wpAny_mono he (fun xv s₁ h₁ => ?_) fun _ _ z => z)
  obtain ⟨rfl, σ⟩ := h₁
  have hl1 : s₁.heap.IsList a its.toArray := hl.at fun o e => σ.keep _ _ e
  have hne : a ≠ s₁.heap.objs.size := by obtain ⟨o, ho, _⟩ := hl1; exact Nat.ne_of_lt (Heap.lt_size ho)
  refine wpAny_pyIter_list hl1 ?_
  have W := Walks.list (w := w) (prog := prog) ρ.hh s₁.heap.objs.size a hne its.toArray
  have esz : its.toArray.size = its.length := by simp
  rw [esz] at W
  have σ2 := σ.push { cls := .type "list_iterator", data := .fields #[.ref a, .int 0 0] }
  refine r_newList σ2 (by decide) fun D s₃ σ3 => ?_
  generalize hIa : s₁.heap.objs.size = I at *
  refine wpAny_newFunctionEnv hcell (by intro y hy; simp at hy) (fun h₁ hns hsb => ?_) hkind
  have hk : Sub s₃.heap h₁ := fun b o e => hsb.extBut b o (Nat.ne_of_lt (Heap.lt_size e)) (Heap.get?_push_of_some _ e)
  have hCn : s₃.heap.get? s₃.heap.objs.size = none := by
    cases q : s₃.heap.get? s₃.heap.objs.size with
    | none => rfl
    | some z => exact absurd (Heap.lt_size q) (Nat.lt_irrefl _)
  obtain ⟨oL, nL, τ⟩ := σ3.inC0 (s₃ := { s₃ with heap := h₁, toks := s₃.toks + ([] : List (Str × Value)).length }) hCn hns hk rfl rfl
  generalize hCa : s₃.heap.objs.size = C at *
  have p1 : ([(I, ({ cls := .type "list_iterator", data := .fields #[.ref a, .int 0 0] } : Obj))] ++ (D, listOf #[] 0) :: (L, oL) :: news).Perm ((L, oL) :: (D, listOf ([] : List Value).toArray 0) :: (I, { cls := .type "list_iterator", data := .fields #[.ref a, .int 0 0] }) :: news) :=
    ((List.Perm.swap _ _ _).trans (List.Perm.cons _ (List.Perm.swap _ _ _))).trans (List.Perm.swap _ _ _)
  have τ := τ.perm p1
  have fin : ∀ s', Sx K mg mb os gs g C [] ((D, listOf #[] 0) :: (L, oL) :: news) s' → compPost (model prog w) A E none Q (.ref D) C (.ok .next) s' := fun s' υ => by
    obtain ⟨m, hm, _⟩ := υ.nsm
    refine ⟨m, hm, fun h' hs' => ?_⟩
    have υ2 := υ.back nL (Pick.tail Pick.head)
    refine k D _ (υ2.turn (tk := s'.toks) hs'.extBut ?_ υ.gL fun p hp => ?_)
    · exact fun e => (υ.nw (L, oL) (.tail _ (.head _))).2.1 e
    · cases hp with
      | head => exact (υ.nw _ (.head _)).2.1
      | tail _ hp => exact (υ.nw p (.tail _ (.tail _ hp))).2.1
  have loop : ∀ s', (∃ own, own.map (·.1) = [I] ∧ Sx K mg mb os gs g C [] (own ++ (D, listOf #[] 0) :: (L, oL) :: news) s' ∧ (s'.heap.IsListIter I a 0 ∧ s'.heap.IsList a its.toArray)) →
      codeAny (model prog w) A (.compLoop (.ListComp elt [⟨.Tuple elts x1 tp, iter, [test], 0⟩] scope pos) 0 (.ref I) (.ref D) (compEnvC scope cl C env)) (compPost (model prog w) A E none Q (.ref D) C) s' := by
    rintro s' ⟨own₀, ho₀, υ₀, st₀⟩
    refine compNo (fun n s' => ∃ i own, own.map (·.1) = [I] ∧ Sx K mg mb os gs g C [] (own ++ (D, listOf #[] 0) :: (L, oL) :: news) s' ∧ (s'.heap.IsListIter I a i ∧ s'.heap.IsList a its.toArray) ∧ i ≤ its.length ∧ n = its.length + 1 - i) ?_ (its.length + 1) ⟨0, own₀, ho₀, υ₀, st₀, Nat.zero_le _, rfl⟩
    rintro n s' ⟨i, own, hw', υ, st, hi, rfl⟩
    by_cases hlt : i < its.length
    · refine W.item i s' _ _ hlt st fun v h₂ tk₂ hP st₂ hk₂ => ?_
      obtain ⟨oI, hoI, _⟩ := id st₂.1
      have υ' : Sx K mg mb os gs g C [] ([(I, oI)] ++ (D, listOf #[] 0) :: (L, oL) :: news) { s' with heap := h₂, toks := tk₂ } := υ.turnW (by rw [hw']; rfl) (fun b o hb e => hk₂ b o (hw' ▸ hb) e) (fun p hp => by rw [List.mem_singleton.mp hp]; exact hoI)
      refine go_lst (s := { s' with heap := h₂, toks := tk₂ }) st₂.1 ?_
      refine wpAny_mono (turn C oL [(I, oI)] D i v _ nL (by simpa using hP) υ') (fun _ s₄ h₄ => wpAny_mono h₄ (fun ok s₅ h₅ => ?_) fun _ _ z => z.elim) fun _ _ z => z.elim
      obtain ⟨rfl, υ5⟩ := h₅
      refine ⟨rfl, its.length + 1 - (i + 1), by omega, i + 1, [(I, oI)], rfl, υ5, W.frame _ _ _ st₂ fun b hb o e => ?_, hlt, rfl⟩
      rcases List.mem_cons.mp hb with z | z
      · subst z
        have y := (υ5.nw (b, oI) (.head _)).1
        rw [show oI = o from Option.some.inj (hoI.symm.trans e)] at y
        exact y
      · rw [List.mem_singleton.mp z] at e ⊢
        obtain ⟨oa, hoa, _⟩ := id hl
        have y1 := υ'.keep _ _ hoa
        have y2 := υ5.keep _ _ hoa
        have : oa = o := Option.some.inj (y1.symm.trans e)
        exact this ▸ y2
    · have hin : i = its.length := by omega
      subst hin
      refine W.done s' _ _ st fun h₂ tk₂ hk₂ => fin _ ?_
      have nd := υ.nd
      rw [List.map_append, List.nodup_append] at nd
      obtain ⟨oC, hoC, nn⟩ := υ.ns
      have nC : C ∉ [I] := fun q => by
        obtain ⟨p, hp, e⟩ := List.mem_map.mp (hw' ▸ q : C ∈ own.map (·.1))
        exact (υ.nw p (List.mem_append_left _ hp)).2.1 e
      refine ⟨⟨oC, hk₂ _ _ nC hoC, nn⟩, fun b o e => hk₂ b o (fun q => ?_) (υ.keep b o e), υ.gL, fun p hp => ?_, nd.2.1, υ.t, υ.os, υ.gs⟩
      · obtain ⟨p, hp, rfl⟩ := List.mem_map.mp (hw' ▸ q : b ∈ own.map (·.1))
        rw [(υ.nw p (List.mem_append_left _ hp)).2.2] at e; cases e
      · have y := υ.nw p (List.mem_append_right _ hp)
        exact ⟨hk₂ _ _ (fun q => nd.2.2 p.1 (hw' ▸ q) p.1 (List.mem_map_of_mem hp) rfl) y.1, y.2⟩
  have st0 : h₁.IsListIter I a 0 ∧ h₁.IsList a its.toArray := by
    refine ⟨⟨_, (τ.nw _ (.head _)).1, rfl, rfl⟩, hl.at fun o e => τ.keep _ _ e⟩
  have L0 := loop { s₃ with heap := h₁, toks := s₃.toks + ([] : List (Str × Value)).length } ⟨_, rfl, τ, st0⟩
  exact codeAny_compStart_list L0 (W.self 0 _ _ _ st0 L0)
end
end Mine
end
section
open PySem PySem.W PyProof.Rows PySem.Calls
set_option maxRecDepth 100000
namespace Mine
theorem and_bit (m b : Nat) : (Builtin.bitAnd ((m : Nat) : Int) ((b : Nat) : Int) == ((b : Nat) : Int)) = (m &&& b == b) := by
  rw [bitAnd_pp (Int.natCast_nonneg _) (Int.natCast_nonneg _), Int.toNat_natCast, Int.toNat_natCast]
  by_cases h : m &&& b = b
  · rw [h]; simp
  · have : ¬ (((m &&& b : Nat) : Int) = ((b : Nat) : Int)) := by omega
    rw [beq_eq_false_iff_ne.mpr this, beq_eq_false_iff_ne.mpr h]
theorem and_pow (m k : Nat) : (m &&& 2 ^ k == 2 ^ k) = m.testBit k := by
  cases h : m.testBit k with
  | true =>
    have : m &&& 2 ^ k = 2 ^ k := by
      apply Nat.eq_of_testBit_eq
      intro j
      rw [Nat.testBit_and, Nat.testBit_two_pow]
      by_cases hj : k = j
      · subst hj; simp [h]
      · simp [hj]
    rw [this]; simp
  | false =>
    rw [beq_eq_false_iff_ne]
    intro e
    have := congrArg (fun x => x.testBit k) e
    simp [Nat.testBit_and, h] at this
def isR (c : Str) : Bool := Txt.contains "rwxst" c
theorem row1 (m b : Nat) (c : Str) (i : Nat) (hi : i ≠ 0) (hc : isR c = true) : isR (fmAt ((m : Nat) : Int) i [((b : Int), c)]) = (m &&& b == b) := by
  unfold fmAt
  rw [if_neg hi]
  unfold pick
  rw [and_bit]
  cases h : (m &&& b == b) with
  | true => exact hc
  | false => simp only [Bool.false_eq_true, if_false]; unfold pick; decide +kernel
theorem row3 (m s x : Nat) (a b c : Str) (i : Nat) (hi : i ≠ 0) (ha : isR a = true) (hb : isR b = false) (hc : isR c = true) :
    isR (fmAt ((m : Nat) : Int) i [(((s ||| x : Nat) : Int), a), ((s : Int), b), ((x : Int), c)]) = (m &&& x == x) := by
  unfold fmAt
  rw [if_neg hi]
  unfold pick pick pick pick
  rw [and_bit, and_bit, and_bit]
  have key : m &&& (s ||| x) = (m &&& s) ||| (m &&& x) := Nat.and_or_distrib_left ..
  have k2 : (m &&& (s ||| x)) &&& x = m &&& x := by
    rw [Nat.and_assoc]
    congr 1
    apply Nat.eq_of_testBit_eq
    intro j
    simp only [Nat.testBit_and, Nat.testBit_or]
    cases s.testBit j <;> cases x.testBit j <;> rfl
  cases h1 : (m &&& (s ||| x) == (s ||| x)) with
  | true =>
    have e1 : m &&& (s ||| x) = s ||| x := by simpa using h1
    have : m &&& x = x := by
      rw [← k2, e1]
      apply Nat.eq_of_testBit_eq
      intro j
      simp only [Nat.testBit_and, Nat.testBit_or]
      cases s.testBit j <;> cases x.testBit j <;> rfl
    rw [this]
    simpa using ha
  | false =>
    simp only [Bool.false_eq_true, if_false]
    cases h2 : (m &&& s == s) with
    | true =>
      simp only [if_true]
      have e2 : m &&& s = s := by simpa using h2
      have : (m &&& x == x) = false := by
        rw [beq_eq_false_iff_ne]
        intro e3
        rw [beq_eq_false_iff_ne] at h1
        exact h1 (by rw [key, e2, e3])
      rw [this]
      exact hb
    | false =>
      simp only [Bool.false_eq_true, if_false]
      cases h3 : (m &&& x == x) with
      | true => simpa using hc
      | false => simp only [Bool.false_eq_true, if_false]; decide +kernel
theorem len_one {x : Str} (h : x.length = 1) : ∃ c, x = ⟨#[c]⟩ := by
  obtain ⟨⟨l⟩⟩ := x
  match l, h with
  | [c], _ => exact ⟨c, rfl⟩
theorem fl_ones : ∀ (ys : List Str), (∀ y ∈ ys, y.length = 1) → ∀ k, ((fl ys).drop k).map (fun c => isR ⟨#[c]⟩) = (ys.drop k).map isR ∧ (fl ys).length = ys.length
  | [], _, k => by simp [fl]
  | y :: ys, h, 0 => by
    obtain ⟨c, rfl⟩ := len_one (h y (.head _))
    have ih := fl_ones ys (fun z hz => h z (.tail _ hz)) 0
    simp only [List.drop_zero] at ih
    have e : fl (⟨#[c]⟩ :: ys) = c :: fl ys := rfl
    rw [e]
    simp only [List.drop_zero, List.map_cons, List.length_cons, ih.1, ih.2, and_self]
  | y :: ys, h, k + 1 => by
    obtain ⟨c, rfl⟩ := len_one (h y (.head _))
    have ih := fl_ones ys (fun z hz => h z (.tail _ hz)) k
    have e : fl (⟨#[c]⟩ :: ys) = c :: fl ys := rfl
    rw [e]
    simp only [List.drop_succ_cons, List.length_cons, ih.1, ih.2, and_self]
theorem fm_ones (m : Int) : ∀ (tab : List (List (Int × Str))) (k : Nat), (∀ row ∈ tab, ∀ bc ∈ row, bc.2.length = 1) → ∀ y ∈ fmFrom m k tab, y.length = 1
  | row :: tab, k, h, y, hy => by
    cases hy with
    | head => exact fmAt_len m k row (h row (.head _))
    | tail _ hy => exact fm_ones m tab (k + 1) (fun r hr => h r (.tail _ hr)) y hy
theorem sign_bit (m k : Nat) (hk : k < 9) : isR (fmAt ((m : Nat) : Int) (k + 1) (fmTab.getD (k + 1) [])) = m.testBit (8 - k) := by
  have r0 := row1 m 256 "r" 1 (by decide) (by decide +kernel)
  have r1 := row1 m 128 "w" 2 (by decide) (by decide +kernel)
  have r2 := row3 m 2048 64 "s" "S" "x" 3 (by decide) (by decide +kernel) (by decide +kernel) (by decide +kernel)
  have r3 := row1 m 32 "r" 4 (by decide) (by decide +kernel)
  have r4 := row1 m 16 "w" 5 (by decide) (by decide +kernel)
  have r5 := row3 m 1024 8 "s" "S" "x" 6 (by decide) (by decide +kernel) (by decide +kernel) (by decide +kernel)
  have r6 := row1 m 4 "r" 7 (by decide) (by decide +kernel)
  have r7 := row1 m 2 "w" 8 (by decide) (by decide +kernel)
  have r8 := row3 m 512 1 "t" "T" "x" 9 (by decide) (by decide +kernel) (by decide +kernel) (by decide +kernel)
  have : k = 0 ∨ k = 1 ∨ k = 2 ∨ k = 3 ∨ k = 4 ∨ k = 5 ∨ k = 6 ∨ k = 7 ∨ k = 8 := by omega
  rcases this with rfl | rfl | rfl | rfl | rfl | rfl | rfl | rfl | rfl
  · exact r0.trans (and_pow m 8)
  · exact r1.trans (and_pow m 7)
  · exact r2.trans (and_pow m 6)
  · exact r3.trans (and_pow m 5)
  · exact r4.trans (and_pow m 4)
  · exact r5.trans (and_pow m 3)
  · exact r6.trans (and_pow m 2)
  · exact r7.trans (and_pow m 1)
  · exact r8.trans (and_pow m 0)
end Mine
end
section
open PySem PySem.W PyProof.Rows PySem.Calls
set_option maxRecDepth 100000
namespace Mine
def upOf (dn : Nat) (b : Bool) : Bool := decide (dn = 0) || (b && decide (dn < 4))
def dnOf (dn : Nat) (up : Bool) : Nat := if up then dn + 1 else dn - 1
def prOf (dn : Nat) (pr : Int) (up : Bool) : Int := if up then pr * ((dn + 1 : Nat) : Int) else pr
theorem go_spec {next : List (List Nat × Int) → Nat → Int → Bool} {xs : List (List Nat × Int)} {dn : Nat} {pr : Int} {up : Bool} (h : goOk next xs dn pr up = true) :
    inOk up xs = true ∧ ∃ ys, stepP up xs = some ys ∧ outOk ys (dnOf dn up) (prOf dn pr up) = true ∧ next ys (dnOf dn up) (prOf dn pr up) = true := by
  unfold goOk at h
  rw [Bool.and_eq_true] at h
  obtain ⟨h1, h2⟩ := h
  refine ⟨h1, ?_⟩
  cases hs : stepP up xs with
  | none => rw [hs] at h2; cases h2
  | some ys =>
    rw [hs] at h2
    dsimp only at h2
    rw [Bool.and_eq_true] at h2
    refine ⟨ys, rfl, ?_, ?_⟩
    · have := h2.1
      cases up <;> exact this
    · have := h2.2
      cases up <;> exact this
theorem tree_go {k : Nat} {xs : List (List Nat × Int)} {dn : Nat} {pr : Int} (h : treeOk (k + 1) xs dn pr = true) (b : Bool) : dn ≤ 4 ∧ goOk (treeOk k) xs dn pr (upOf dn b) = true := by
  unfold treeOk at h
  rw [Bool.and_eq_true, decide_eq_true_eq] at h
  obtain ⟨h1, h2⟩ := h
  refine ⟨h1, ?_⟩
  unfold upOf
  by_cases h0 : dn = 0
  · rw [if_pos h0] at h2
    rw [decide_eq_true h0]; exact h2
  · rw [if_neg h0] at h2
    rw [decide_eq_false h0]
    by_cases h4 : dn < 4
    · rw [if_pos h4, Bool.and_eq_true] at h2
      rw [decide_eq_true h4]
      cases b
      · exact h2.2
      · exact h2.1
    · rw [if_neg h4] at h2
      rw [decide_eq_false h4]
      cases b <;> exact h2
theorem in_spec {up : Bool} {xs : List (List Nat × Int)} (h : inOk up xs = true) : xs.length ≤ 10 ∧ ∀ x ∈ xs, x.1 ∈ allParts ∧ (up = true → x.1 ∈ smallParts) := by
  unfold inOk at h
  rw [Bool.and_eq_true, decide_eq_true_eq, List.all_eq_true] at h
  refine ⟨h.1, fun x hx => ?_⟩
  have := h.2 x hx
  rw [Bool.and_eq_true] at this
  refine ⟨by simpa using this.1, fun hu => ?_⟩
  have h2 := this.2
  rw [hu] at h2
  simpa using h2
theorem out_spec {ys : List (List Nat × Int)} {dn : Nat} {pr : Int} (h : outOk ys dn pr = true) : ys.length = tblN dn ∧ ∀ x ∈ ys, x.2 * hPr x.1 x.1.length = pr ∧ x.1 ∈ allParts ∧ x.2.natAbs < 1000000 := by
  unfold outOk at h
  rw [Bool.and_eq_true, decide_eq_true_eq, List.all_eq_true] at h
  refine ⟨h.1, fun x hx => ?_⟩
  have := h.2 x hx
  rw [Bool.and_eq_true, Bool.and_eq_true, decide_eq_true_eq, decide_eq_true_eq] at this
  exact ⟨this.1.1, by simpa using this.1.2, this.2⟩
end Mine
end
section
open PySem PySem.W PyProof.Rows PySem.Calls
set_option maxRecDepth 100000
namespace Mine
theorem sign_at (m k : Nat) (hk : k < 9) : (Txt.charAt (Txt.join "" (fmFrom ((m : Nat) : Int) 0 fmTab)) (((k : Nat) : Int) + 1)).isSome = true ∧ isR (Txt.item (Txt.join "" (fmFrom ((m : Nat) : Int) 0 fmTab)) (((k : Nat) : Int) + 1)) = m.testBit (8 - k) := by
  rw [join_fl]
  have ones := fm_ones ((m : Nat) : Int) fmTab 0 fmTab_one
  have hf := fl_ones _ ones (k + 1)
  have hl : (fmFrom ((m : Nat) : Int) 0 fmTab).length = 10 := (fmFrom_len _ fmTab 0 fmTab_one).1
  have hfl := hf.2
  rw [hl] at hfl
  have e2 : (fmFrom ((m : Nat) : Int) 0 fmTab)[k + 1]? = some (fmAt ((m : Nat) : Int) (k + 1) (fmTab.getD (k + 1) [])) := by
    have : k = 0 ∨ k = 1 ∨ k = 2 ∨ k = 3 ∨ k = 4 ∨ k = 5 ∨ k = 6 ∨ k = 7 ∨ k = 8 := by omega
    rcases this with rfl | rfl | rfl | rfl | rfl | rfl | rfl | rfl | rfl <;> rfl
  have hlt : k + 1 < (fl (fmFrom ((m : Nat) : Int) 0 fmTab)).length := by omega
  have hd := congrArg (fun l => l[0]?) hf.1
  simp only [List.getElem?_map, List.getElem?_drop, Nat.add_zero] at hd
  rw [e2] at hd
  generalize hF : fl (fmFrom ((m : Nat) : Int) 0 fmTab) = F at *
  have ec : Txt.charAt ⟨F.toArray⟩ (((k : Nat) : Int) + 1) = some F[k + 1] := by
    unfold Txt.charAt
    have hsz : Str.length ⟨F.toArray⟩ = 10 := by show F.toArray.size = 10; simp [hfl]
    have es : seqIndex? (((k : Nat) : Int) + 1) (Str.length ⟨F.toArray⟩) = some (k + 1) := by
      rw [hsz]
      have : k = 0 ∨ k = 1 ∨ k = 2 ∨ k = 3 ∨ k = 4 ∨ k = 5 ∨ k = 6 ∨ k = 7 ∨ k = 8 := by omega
      rcases this with rfl | rfl | rfl | rfl | rfl | rfl | rfl | rfl | rfl <;> rfl
    rw [es]
    simp [hlt]
  refine ⟨by rw [ec]; rfl, ?_⟩
  unfold Txt.item
  rw [ec]
  rw [← sign_bit m k hk]
  rw [List.getElem?_eq_getElem hlt] at hd
  simpa using hd
theorem ebit (m j : Nat) : ((((m : Nat) : Int).fdiv ((2 ^ j : Nat) : Int)).fmod 2 == 1) = m.testBit j := by
  have h1 : ((m : Nat) : Int).fdiv ((2 ^ j : Nat) : Int) = ((m / 2 ^ j : Nat) : Int) := by
    rw [Int.fdiv_eq_ediv_of_nonneg _ (Int.natCast_nonneg _)]; exact (Int.natCast_ediv _ _).symm
  rw [h1]
  have h2 : ((m / 2 ^ j : Nat) : Int).fmod 2 = ((m / 2 ^ j % 2 : Nat) : Int) := by
    rw [Int.fmod_eq_emod_of_nonneg _ (by omega)]; simp
  rw [h2, Nat.testBit_eq_decide_div_mod_eq]
  by_cases h : m / 2 ^ j % 2 = 1
  · rw [h]; rfl
  · rw [decide_eq_false h, beq_eq_false_iff_ne]; omega
end Mine
end
section
open PySem PySem.W PyProof.Rows PySem.Calls
set_option maxRecDepth 100000
set_option maxHeartbeats 4000000
namespace Mine
local macro_rules | `(tactic| walk_at "mm") => `(tactic| first | exact List.Mem.head _ | (refine List.Mem.tail _ ?_; walk_at "mm") | (refine List.mem_append_right _ ?_; walk_at "mm"))
local macro_rules | `(tactic| walk_at "nd") => `(tactic| (simp only [List.map_cons, List.map_nil]; decide))
local macro_rules | `(tactic| walk_at "rm") => `(tactic| first | exact Rm.nil | ((with_reducible refine' Rm.hit ?rmb); (case rmb => walk_at "rm")) | (refine' Rm.skip ?rma ?rmb; (case rma => decide); (case rmb => walk_at "rm")))
local macro_rules | `(tactic| walk_at "up") => `(tactic| first | (with_reducible exact Up.head) | (refine' Up.tail ?upa; (case upa => walk_at "up")) | (refine' Up.app ?upa _; (case upa => walk_at "up")))
local macro_rules | `(tactic| walk_at "pick") => `(tactic| first | (with_reducible exact Pick.head) | (refine' Pick.tail ?pka; (case pka => walk_at "pick")) | (refine' Pick.app ?pka _; (case pka => walk_at "pick")))
local macro_rules | `(tactic| walk_at "sub") => `(tactic| first | exact List.forall_mem_nil _ | (refine List.forall_mem_cons.mpr ⟨?sba, ?sbb⟩; (case sba => walk_at "mm"); (case sbb => walk_at "sub")))

theorem r_sum {prog : Program} {w : World} {A : Around} {E : Value → Shared → Prop} {K : Frag} {mg mb : Str → Option Value} {os : OsState} {gs : Array GenState} {g : Heap} {L : Addr} {l : List (Str × Value)} {news : List (Addr × Obj)} {s : Shared} {a : Addr} {its : Array Value} {ns : List Int} {n : Nat} {Q : Value → Shared → Prop}
    (σ : Sx K mg mb os gs g L l news s) (ρ : Room A 0) (hm : (a, listOf its n) ∈ news) (hi : IntsAre its.toList ns) (h : ∀ t s', Sx K mg mb os gs g L l news s' → Q (.int ns.sum t) s') :
    wpAny (model prog w) A (call (.builtin "sum") [.ref a]) Q E s := by
  have hall := hi.allInts
  rw [Array.toArray_toList] at hall
  obtain ⟨xs, rfl⟩ := hall.items
  refine sum_intListG ρ.hh (isL σ hm) fun h' tk t' hk => ?_
  have e : preSum (numAt xs) xs.size = ns.sum := by
    rw [preSum_eq, List.take_of_length_le (by simp), ← nums_intItems, hi.numsOf]
  rw [e]
  exact h _ _ ((σ.ext (s' := { s with heap := h' }) hk rfl rfl).tok _)
structure LSt where
  g : Heap
  St : Addr
  sv : List Value
  xs : List (List Nat × Int)
  dn : Nat
  pr : Int
  td : Tok
  oP : Obj
theorem lawC2 {w : World} {mg mb : Str → Option Value} {A : Around} {s : Shared} {Q E : Value → Shared → Prop} {S : Addr} {vs : List Value} {ns : List Int}
    (X : Tp (hd.heap_39 w.params) mg mb s.heap) (ρ : Room A 8) (hS : s.heap.IsList S vs.toArray) (hi : IntsAre vs ns) (hz : vs.length ≤ 63)
    (k : ∀ s', Sub s.heap s'.heap → s'.os = s.os → s'.gens = s.gens → Q (.bool true) s') :
    wpAny (model P1 w) A (call (.ref 154) [.ref S]) Q E s := by
  refine r_callC0 (binds := [("script", .ref S)]) (y := "product") X ρ (by k_is) (by k_is) rfl (locs rfl) (by walk_at "nd") (fun _ => rfl) (fun L' oC s1 hC ρ σ => ?_) rfl rfl rfl
  generalize hgg : s.heap = g at hS k σ X
  generalize hos : s.os = os at k σ
  generalize hgs : s.gens = gs at k σ
  clear hgg hos hgs
  have hSl : ∀ {s : Shared} {l : List (Str × Value)} {news : List (Addr × Obj)}, Sx (hd.heap_39 w.params) mg mb os gs g L' l news s → s.heap.IsList S vs.toArray := fun σ => hS.at fun o e => σ.keep _ _ e
  refine wpAny_execs_cons (wpAny_Assign_Name (wpAny_BinOp (wpAny_BinOp (r_int σ fun t1 s σ => r_fnB σ (by k_is) boot_sum (args_cons (r_lsl (K := hd.heap_39 w.params) (mg := mg) (mb := mb) (os := os) (gs := gs) (L := L') (g := g) (l := [("script", .ref S)]) (news := (L' + 1, oC) :: []) (r_loc σ (by walk_at "mm") (evalPart_none_step (evalPart_some_step (r_int σ fun t2 s σ => ⟨S, vs, none, some 1, rfl, hSl σ, by rw [sizeLine]; omega, .none, .int _ _, σ, fun D s σ => args_nil (r_sum σ (ρ.le (by omega)) (.head _) (hi.pick none (some 1) none) fun t3 s σ => r_add σ fun t4 s σ => r_int σ fun t5 s σ => r_mod σ (by decide) fun t6 s σ => r_st σ.drop1 (by walk_at "rm") fun s σ => ?_)⟩))))))))))
  dsimp only
  generalize (pickNums ns none (some 1) none).sum = A1 at σ
  obtain ⟨m, em⟩ : ∃ m : Nat, (36832 + A1).fmod 65536 = ((m : Nat) : Int) := ⟨((36832 + A1).fmod 65536).toNat, by have h1 : 0 ≤ (36832 + A1).fmod 65536 := Int.fmod_nonneg_of_pos _ (by decide); omega⟩
  have hm : m < 65536 := by have h1 : (36832 + A1).fmod 65536 < 65536 := Int.fmod_lt_of_pos _ (by decide); omega
  rw [em] at σ
  refine wpAny_execs_cons (wpAny_Assign_Name (r_fn σ (by k_is) (by k_is) (args_cons (r_loc σ (by walk_at "mm") (args_nil ⟨σ.keep, filemode σ (ρ.le (by omega)) fun t7 s σ => r_st σ (by walk_at "rm") fun s σ => ?_⟩)))))
  dsimp only
  refine wpAny_execs_cons (wpAny_Assign_Name (List_ (args_cons (Tuple_ (args_cons (List_ (args_nil (r_newList σ (by decide) fun E0 s σ => args_cons (r_int σ fun t8 s σ => args_nil (r_newTuple σ (by show 2 ≤ 2 ^ 24; decide) fun T0 s σ => args_nil (r_newList σ (by show 1 ≤ 2 ^ 24; decide) fun S0 s σ => r_st σ (by walk_at "rm") fun s σ => ?_)))))))))))
  dsimp only
  obtain ⟨g1, hg1, σ, hF⟩ := Sx.freeze (fz := [(S0, listOf #[.ref T0] 0), (T0, tupOf #[.ref E0, .int 1 t8] 0), (E0, listOf #[] 0)]) σ
  have hE0 : IsRows g1 (.ref E0) [] := ⟨E0, [], rfl, ⟨_, hF _ (.tail _ (.tail _ (.head _))), rfl, _, rfl⟩, .nil⟩
  have hT0 : IsItem g1 (.ref T0) ([], 1) := ⟨T0, .ref E0, t8, rfl, ⟨_, hF _ (.tail _ (.head _)), rfl, _, rfl⟩, hE0⟩
  have hS0 : g1.IsList S0 (List.toArray [.ref T0]) := ⟨_, hF _ (.head _), rfl, _, rfl⟩
  refine wpAny_execs_cons (wpAny_Assign_Name (r_int σ fun t9 s σ => r_st σ (by walk_at "rm") fun s σ => ?_))
  dsimp only
  refine wpAny_execs_cons (wpAny_Assign_Name (r_int σ fun t10 s σ => r_stU (nw := fun o' => (L' + 1, o') :: []) σ (fun o' => by walk_at "up") hC fun s oP hoP σ => ?_))
  dsimp only
  have σ := σ.loc (l' := [("states", .ref S0), ("dots", .int 0 t9), ("signs", .str (Txt.join "" (fmFrom ((m : Nat) : Int) 0 fmTab)) t7), ("mode", .int ((m : Nat) : Int) t6)]) (by walk_at "sub")
  refine r_seq (fun s => ∃ (g' : Heap) (o2 : Obj) (l' : List (Str × Value)), Sub g g' ∧ Sx (hd.heap_39 w.params) mg mb os gs g' L' l' ((L' + 1, o2) :: []) s) ?_ ?_
  · refine r_forR (K := hd.heap_39 w.params) (mg := mg) (mb := mb) (os := os) (gs := gs) (L := L') (g := g) (n := 9) (a := 0) (c := 1) (ρ.le (by omega)) (fun i (x : LSt) => Sub g x.g ∧ x.g.IsList x.St x.sv.toArray ∧ ItemsAre x.g x.sv x.xs ∧ treeOk (9 - i) x.xs x.dn x.pr = true ∧ ∃ tp, x.oP.data = .cell (some (.int x.pr tp))) (fun x => x.g) (fun x => [("states", .ref x.St), ("dots", .int (x.dn : Int) x.td), ("signs", .str (Txt.join "" (fmFrom ((m : Nat) : Int) 0 fmTab)) t7), ("mode", .int ((m : Nat) : Int) t6)]) (fun x => (L' + 1, x.oP) :: []) ⟨g1, S0, [.ref T0], [([], 1)], 0, 1, t9, oP⟩ ⟨hg1, hS0, .cons hT0 .nil, tree9, t10, hoP⟩ (fun _ _ h => h.1) ?_ ?_ ?_
    · exact r_fnT σ (by k_is) boot_range (args_cons (r_int σ fun t11 s σ => args_nil (r_rng1 (n := 9) σ (by decide) (by decide) rfl)))
    · rintro i ⟨gx, St, sv, xs, dn, pr, td, oQ⟩ own ti s hi ⟨c1, c2, c3, c4, tp, hoQ⟩ σ
      dsimp only at c1 c2 c3 c4 hoQ σ
      refine r_st σ (by walk_at "rm") fun s σ => ?_
      have ei : (0 : Int) + (i : Int) * 1 = ((i : Nat) : Int) := by omega
      rw [ei] at σ
      have e9 : 9 - i = (8 - i) + 1 := by omega
      rw [e9] at c4
      obtain ⟨hdn, hgo⟩ := tree_go c4 (m.testBit (8 - i))
      obtain ⟨hin, ys, hst, hout, hnext⟩ := go_spec hgo
      obtain ⟨hxl, hxs⟩ := in_spec hin
      obtain ⟨hyl, hys⟩ := out_spec hout
      obtain ⟨sg1, sg2⟩ := sign_at m i hi
      generalize hup : upOf dn (m.testBit (8 - i)) = up at hin hst hout hnext hyl hys hxs
      refine wpAny_execs_cons (wpAny_Assign_Name (r_fn σ (by k_is) (by k_is) (args_cons (r_loc σ (by walk_at "mm") (args_cons ?_)))))
      refine wpAny_mono (show wpAny _ _ _ (fun v s' => v = .bool up ∧ Sx (hd.heap_39 w.params) mg mb os gs gx L' [("k", .int ((i : Nat) : Int) ti), ("states", .ref St), ("dots", .int (dn : Int) td), ("signs", .str (Txt.join "" (fmFrom ((m : Nat) : Int) 0 fmTab)) t7), ("mode", .int ((m : Nat) : Int) t6)] (own ++ (L' + 1, oQ) :: []) s') (fun _ _ => False) _ from ?_) (fun v s' hv => ?_) fun _ _ z => z
      · refine BoolOp_or (wpAny_Compare1 (r_loc σ (by walk_at "mm") (r_int σ fun t12 s σ => r_eq (wpAny_truthy_bool ?_))))
        by_cases h0 : dn = 0
        · have eb : (((dn : Nat) : Int) == 0) = true := by rw [h0]; rfl
          rw [eb]
          simp only [if_true]
          exact ⟨by rw [← hup]; unfold upOf; rw [decide_eq_true h0]; rfl, σ⟩
        · have eb : (((dn : Nat) : Int) == 0) = false := by rw [beq_eq_false_iff_ne]; omega
          rw [eb]
          simp only [Bool.false_eq_true, if_false]
          refine BoolOp_one (BoolOp_and (wpAny_Compare1 (Subscript_ (r_loc σ (by walk_at "mm") (wpAny_BinOp (r_loc σ (by walk_at "mm") (r_int σ fun t13 s σ => r_add σ fun t14 s σ => tail_any (typeIs_str _ _ _) PySem.F.slot_str_getitem.lookup (SB.getItem ?_ sg1 ?_) (by with_unfolding_all rfl))))))))
          · have : ((i : Nat) : Int) + 1 < 2 ^ 63 := by omega
            simp [fitsSsize]; omega
          · have σ := σ.tok (s.toks + 1)
            refine r_str σ fun t15 s σ => SB.contains (wpAny_truthy_bool ?_)
            change isR _ = _ at sg2
            rw [show Txt.contains "rwxst" (Txt.item (Txt.join "" (fmFrom ((m : Nat) : Int) 0 fmTab)) (((i : Nat) : Int) + 1)) = m.testBit (8 - i) from sg2]
            cases hb : m.testBit (8 - i) with
            | false =>
              simp only [Bool.false_eq_true, if_false]
              exact ⟨by rw [← hup, hb]; unfold upOf; rw [decide_eq_false h0]; rfl, σ⟩
            | true =>
              simp only [if_true]
              refine BoolOp_one (wpAny_Compare1 (r_loc σ (by walk_at "mm") (r_int σ fun t16 s σ => r_lt ⟨?_, σ⟩)))
              rw [← hup, hb]
              unfold upOf
              rw [decide_eq_false h0]
              by_cases h4 : dn < 4
              · rw [decide_eq_true h4, decide_eq_true (by omega)]; rfl
              · rw [decide_eq_false h4, decide_eq_false (by omega)]; rfl
      · obtain ⟨rfl, σ⟩ := hv
        refine args_nil ⟨σ.keep, lawstep σ (ρ.le (by omega)) c2 c3 (fun x hx => ?_) hxl (fun x hx => ?_) hst fun g2 T tv cT s hg2 hI2 σ => r_st σ (by walk_at "rm") fun s σ => ?_⟩
        · obtain ⟨p1, p2, _⟩ := parts_ok x.1 (hxs x hx).1
          refine ⟨⟨p1, p2⟩, fun hu => ?_⟩
          obtain ⟨q1, q2, q3, q4⟩ := laid_ok x.1 ((hxs x hx).2 hu)
          exact ⟨q1, q2, q3, q4⟩
        · obtain ⟨_, _, p3, p4⟩ := parts_ok x.1 (hxs x hx).1
          unfold moves
          split
          · exact p4
          · exact p3
        · dsimp only
          obtain ⟨g3, hg3, σ, hTg⟩ := Sx.freeze (fz := [(T, listOf tv.toArray cT)]) σ
          have hTl : g3.IsList T tv.toArray := ⟨_, hTg _ (.head _), rfl, _, rfl⟩
          have hI3 := hI2.sub hg3
          have htl := hI2.len
          have hU : up = true → dn < 4 := fun h => by
            rw [h] at hup
            unfold upOf at hup
            by_cases h4 : dn < 4
            · exact h4
            · rw [decide_eq_false h4, decide_eq_false (show ¬ dn = 0 by omega)] at hup
              simp at hup
          have hD : up = false → dn ≠ 0 := fun h h0 => by
            rw [h] at hup
            unfold upOf at hup
            rw [decide_eq_true h0] at hup
            simp at hup
          refine r_seq (fun s => ∃ (td' : Tok) (oQ' : Obj), (∃ tp, oQ'.data = .cell (some (.int (prOf dn pr up) tp))) ∧ Sx (hd.heap_39 w.params) mg mb os gs g3 L' [("dots", .int ((dnOf dn up : Nat) : Int) td'), ("states", .ref T), ("signs", .str (Txt.join "" (fmFrom ((m : Nat) : Int) 0 fmTab)) t7), ("mode", .int ((m : Nat) : Int) t6)] (own ++ (L' + 1, oQ') :: []) s) ?_ ?_
          · refine wpAny_If (wpAny_mono (show wpAny _ _ _ (fun b s' => b = up ∧ Sx (hd.heap_39 w.params) mg mb os gs g3 L' [("states", .ref T), ("k", .int ((i : Nat) : Int) ti), ("dots", .int (dn : Int) td), ("signs", .str (Txt.join "" (fmFrom ((m : Nat) : Int) 0 fmTab)) t7), ("mode", .int ((m : Nat) : Int) t6)] (own ++ (L' + 1, oQ) :: []) s') (fun _ _ => False) _ from ?_) (fun b s' hb => ?_) fun _ _ z => z.elim)
            · refine r_or1 (wpAny_isTrue_Compare1 (r_loc σ (by walk_at "mm") (r_int σ fun t17 s σ => r_eq (wpAny_truthy_bool ?_))))
              by_cases h0 : dn = 0
              · have eb : (((dn : Nat) : Int) == 0) = true := by rw [h0]; rfl
                rw [eb]
                simp only [if_true]
                exact ⟨by rw [← hup]; unfold upOf; rw [decide_eq_true h0]; rfl, σ⟩
              · have eb : (((dn : Nat) : Int) == 0) = false := by rw [beq_eq_false_iff_ne]; omega
                rw [eb]
                simp only [Bool.false_eq_true, if_false]
                have hbits : (Builtin.Int.intBits 2 : Int) = 2 := by decide
                have e8 : ((8 : Int) - ((i : Nat) : Int)).toNat = 8 - i := by omega
                have hpw : (2 : Int) ^ (8 - i) = ((2 ^ (8 - i) : Nat) : Int) := by simp
                have hpos : 0 < 2 ^ (8 - i) := Nat.two_pow_pos _
                have hle : 2 ^ (8 - i) ≤ 2 ^ 8 := Nat.pow_le_pow_right (by decide) (by omega)
                refine r_and1 (wpAny_isTrue_Compare1 (wpAny_BinOp (wpAny_BinOp (r_loc σ (by walk_at "mm") (wpAny_BinOp (r_int σ fun t18 s σ => wpAny_BinOp (r_int σ fun t19 s σ => r_loc σ (by walk_at "mm") (r_sub σ fun t20 s σ => r_pow σ (by omega) (by rw [hbits]; omega) fun t21 s σ => r_div σ (by rw [e8, hpw]; omega) (PyProof.noPylong_small (by rw [e8, hpw]; omega)) fun t22 s σ => r_int σ fun t23 s σ => r_mod σ (by decide) fun t24 s σ => r_int σ fun t25 s σ => r_eq (wpAny_truthy_bool ?_)))))))))
                have ebit : ((((m : Nat) : Int).fdiv ((2 : Int) ^ ((8 : Int) - ((i : Nat) : Int)).toNat)).fmod 2 == 1) = m.testBit (8 - i) := by
                  rw [e8, hpw]
                  exact Mine.ebit m (8 - i)
                rw [ebit]
                cases hb : m.testBit (8 - i) with
                | false =>
                  simp only [Bool.false_eq_true, if_false]
                  exact ⟨by rw [← hup, hb]; unfold upOf; rw [decide_eq_false h0]; rfl, σ⟩
                | true =>
                  simp only [if_true]
                  refine wpAny_isTrue_Compare1 (r_loc σ (by walk_at "mm") (r_int σ fun t16 s σ => r_lt (wpAny_truthy_bool ⟨?_, σ⟩)))
                  rw [← hup, hb]
                  unfold upOf
                  rw [decide_eq_false h0]
                  by_cases h4 : dn < 4
                  · rw [decide_eq_true h4, decide_eq_true (by omega)]; rfl
                  · rw [decide_eq_false h4, decide_eq_false (by omega)]; rfl
            · obtain ⟨rfl, σ⟩ := hb
              cases b with
              | true =>
                simp only [if_true]
                have h4 := hU rfl
                refine wpAny_execs_cons (wpAny_AugAssign_Name (r_locN σ (by walk_at "mm") (r_int σ fun t26 s σ => r_iadd σ fun t27 s σ => r_st σ (by walk_at "rm") fun s σ => ?_)))
                dsimp only
                refine wpAny_execs_cons (wpAny_AugAssign_Name (wpAny_loadName_cell rfl rfl rfl ⟨_, σ.get (show (L' + 1, oQ) ∈ _ by walk_at "mm"), hoQ⟩ (r_loc σ (by walk_at "mm") (r_imul σ (IntMulOk.of_right (intBits_le_64 (by omega) (by omega))) fun t28 s σ => r_stU (nw := fun o' => own ++ (L' + 1, o') :: []) σ (fun o' => by walk_at "up") hoQ fun s oR hoR σ => ?_))))
                dsimp only
                refine wpAny_execs_nil ⟨rfl, t27, oR, ⟨t28, ?_⟩, ?_⟩
                · rw [hoR]; rfl
                · exact σ.loc (l' := [("dots", .int ((dn : Int) + 1) t27), ("states", .ref T), ("signs", .str (Txt.join "" (fmFrom ((m : Nat) : Int) 0 fmTab)) t7), ("mode", .int ((m : Nat) : Int) t6)]) (by walk_at "sub")
              | false =>
                simp only [Bool.false_eq_true, if_false]
                have h0 := hD rfl
                refine wpAny_execs_cons (wpAny_AugAssign_Name (r_locN σ (by walk_at "mm") (r_int σ fun t26 s σ => r_isub σ fun t27 s σ => r_st σ (by walk_at "rm") fun s σ => ?_)))
                dsimp only
                refine wpAny_execs_nil ⟨rfl, t27, oQ, ⟨tp, hoQ⟩, ?_⟩
                have ed : ((dnOf dn false : Nat) : Int) = (dn : Int) - 1 := by show ((dn - 1 : Nat) : Int) = _; omega
                rw [ed]
                exact σ.loc (by walk_at "sub")
          · rintro s ⟨td', oQ', ⟨tq, hoQ'⟩, σ⟩
            have hd4 : dnOf dn up ≤ 4 := by
              unfold dnOf
              cases up with
              | true => have := hU rfl; simp only [if_true]; omega
              | false => simp only [Bool.false_eq_true, if_false]; omega
            generalize dnOf dn up = dq at *
            generalize prOf dn pr up = pq at *
            have hTs : ∀ {s : Shared} {l : List (Str × Value)} {news : List (Addr × Obj)}, Sx (hd.heap_39 w.params) mg mb os gs g3 L' l news s → s.heap.IsList T tv.toArray := fun σ => hTl.at fun o e => σ.keep _ _ e
            have htb : tblN dq ≤ 5 := by
              have : dq = 0 ∨ dq = 1 ∨ dq = 2 ∨ dq = 3 ∨ dq = 4 := by omega
              rcases this with rfl | rfl | rfl | rfl | rfl <;> decide
            refine wpAny_execs_cons (wpAny_If (wpAny_isTrue_Compare1 (r_fnB σ (by k_is) boot_len (args_cons (r_loc σ (by walk_at "mm") (args_nil (call_len_list (hTs σ) (by simp only [List.size_toArray]; omega) ?_)))))))
            have σ := σ.tok (s.toks + 1 + 1)
            refine Subscript_ (List_ (args_cons (r_int σ fun a1 s σ => args_cons (r_int σ fun a2 s σ => args_cons (r_int σ fun a3 s σ => args_cons (r_int σ fun a4 s σ => args_cons (r_int σ fun a5 s σ => args_nil (r_newList σ (by show 5 ≤ 2 ^ 24; decide) fun B s σ => r_loc σ (by walk_at "mm") ?_))))))))
            obtain ⟨tt, htt⟩ : ∃ tt, (List.toArray [Value.int 1 a1, .int 1 a2, .int 2 a3, .int 3 a4, .int 5 a5])[(((dq : Nat) : Int)).toNat]? = some (.int ((tblN dq : Nat) : Int) tt) := by
              have : dq = 0 ∨ dq = 1 ∨ dq = 2 ∨ dq = 3 ∨ dq = 4 := by omega
              rcases this with rfl | rfl | rfl | rfl | rfl
              · exact ⟨a1, rfl⟩
              · exact ⟨a2, rfl⟩
              · exact ⟨a3, rfl⟩
              · exact ⟨a4, rfl⟩
              · exact ⟨a5, rfl⟩
            refine r_item σ (.head _) (Int.natCast_nonneg _) (by omega) htt (r_ne (wpAny_truthy_bool ?_))
            have σ := σ.drop1
            have en : (((tv.toArray.size : Nat) : Int) != ((tblN dq : Nat) : Int)) = false := by
              rw [List.size_toArray, htl, hyl]; simp
            rw [en]
            simp only [Bool.false_eq_true, if_false]
            refine wpAny_execs_nil ?_
            dsimp only
            refine wpAny_execs_cons (wpAny_If (wpAny_isTrue_Compare1 (r_compNone (cl := [("product", L' + 1)]) (K := hd.heap_39 w.params) (mg := mg) (mb := mb) (os := os) (gs := gs) (L := L') (g := g3) (l := [("dots", .int ((dq : Nat) : Int) td'), ("states", .ref T), ("signs", .str (Txt.join "" (fmFrom ((m : Nat) : Int) 0 fmTab)) t7), ("mode", .int ((m : Nat) : Int) t6)]) (news := own ++ (L' + 1, oQ') :: []) (ρ.le (by omega)) (r_loc σ (by walk_at "mm") ⟨rfl, σ⟩) hTl (fun C oL ow D j v s nL hj σ => ?_) fun D s σ => List_ (args_nil (r_newList σ (by decide) fun N s σ => r_neNil (vs := []) σ (ρ.le (by omega)) (.tail _ (.head _)) (.head _) .nil (wpAny_truthy_bool ?_))))))
            · obtain ⟨x, hxj, Tj, R, tw, rfl, hTj, hR⟩ := hI3.get j hj
              obtain ⟨z1, z2, z3⟩ := hys x (List.mem_of_getElem? hxj)
              obtain ⟨p1, p2, _⟩ := parts_ok x.1 z2
              refine r_two σ (ρ.le (by omega)) (hTj.at fun o e => σ.keep _ _ e) fun s σ => r_st σ (by walk_at "rm") fun s σ => r_st σ (by walk_at "rm") fun s σ => ?_
              refine wpAny_isTrue_Compare1 (wpAny_BinOp (r_loc σ (by walk_at "mm") (r_fn σ (by k_is) (by k_is) (args_cons (r_loc σ (by walk_at "mm") (args_nil ⟨σ.keep, hooks2 σ (ρ.le (by omega)) hR p1 p2 fun t30 s σ => r_mul σ (IntMulOk.of_left (intBits_le_64 (by omega) (by omega))) fun t31 s σ => r_cell (c := L' + 1) σ rfl (by walk_at "mm") hoQ' (r_ne (wpAny_truthy_bool ⟨?_, σ.loc (fun _ h => by cases h)⟩))⟩))))))
              rw [z1]; simp
            · simp only [List.isEmpty_nil, Bool.not_true, Bool.false_eq_true, if_false]
              have σ := σ.drop1.drop1
              refine wpAny_execs_nil ?_
              dsimp only
              refine wpAny_execs_nil ⟨⟨g3, T, tv, ys, dq, pq, td', oQ'⟩, ⟨c1.trans (hg2.trans hg3), hTl, hI3, ?_, tq, hoQ'⟩, σ.loc (by walk_at "sub")⟩
              have e10 : 9 - (i + 1) = 8 - i := by omega
              rw [e10]
              exact hnext
    · rintro x s ⟨c1, _⟩ σ
      exact wpAny_execs_nil ⟨rfl, x.g, x.oP, _, c1, σ⟩
  · rintro s ⟨g', o2, l', h1, σ⟩
    refine wpAny_execs_cons (wpAny_Return_some ?_)
    have τ := σ.thaw h1 X
    exact Constant_bool (k s τ.keep τ.os τ.gs)
end Mine
end
section
open PySem PySem.W PyProof.Rows PySem.Calls
set_option maxRecDepth 100000
set_option maxHeartbeats 4000000
namespace Mine
theorem closes : PySem.Challenge.rw_oc0072_02.Holds := hd (by
  intro w s₀ s₁ mg mb G Y fa o pm cd doc dV kV ho hd hcd hD hmg hg args vals as hpre hlay hrd hwl hlo
  have KX := kIn_of Y
  refine Ground.open G ?_
  intro T B D TE TW
  clear D B TE TW
  wrow_args hpre hlay hrd hwl hlo
  rename_i ns hs hlay0 hL1 hr1 hl2 b4 b3 S vs b0 hL ra w1 r0 hI hr hc1 hc2
  have X : Tp (Mine.hd.heap_39 w.params) mg mb s₁.heap := ⟨KX, T.g, T.b, T.builtins, T.nolimit⟩
  have e : mg "law" = some (.ref 154) := mg_of KX T.g (by k_is)
  have e2 : Value.ref fa = Value.ref 154 := Option.some.inj (hmg.symm.trans e)
  have e3 : fa = 154 := by injection e2
  subst e3
  have hlen := ints_len hI
  refine lawC2 (A := callerA) X ⟨rfl, by decide, by decide⟩ hL hI (by omega) fun s' hk hos hgs => ?_
  refine ⟨.inl ⟨_, .bool true, [], rfl, ?_, ?_, ?_, ?_⟩, .of_keep hk, hos, .of_eq (hgs.trans hg)⟩
  · intro cls; rfl
  · exact .bool _
  · refine postW_of (X := true) ?_ ?_ rfl
    · decide +kernel
    · show WTm.value [] (.eq .res (.lit (.bool true))) _ = _
      simp [WTm.value]
      decide +kernel
  · exact fun _ => ⟨List.nodup_nil, fun a ha => by cases ha⟩)
end Mine
end
theorem PySem.Challenge.cw_oc0072_02_holds : PySem.Challenge.rw_oc0072_02.Holds :=
  Mine.closes
