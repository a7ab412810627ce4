import PyProof.Rows.All
import Wide.All
import OpenK.AllK
import Wide.FinOn
import PySem.Challenge.RW_jc0019_01
set_option Elab.async false
set_option maxRecDepth 100000
set_option autoImplicit false
set_option compiler.extract_closed false
set_option linter.all false
open PySem PySem.W PySem.Calls PyProof.Rows
namespace Mine
/-! the written part of the heap behind the top, told by the program's own statements -/
abbrev pw : Program := PySem.Challenge.pw_jc0019_01
def stm (i : Nat) : Stmt := (pw.main.body[i]?).getD (.Pass ⟨0, 0, 0, 0⟩)
def fl : Str := pw.main.file
def meth (i : Nat) : Stmt := match stm 1 with
  | .ClassDef _ _ _ b _ _ _ _ _ _ _ => (b[i]?).getD (.Pass ⟨0, 0, 0, 0⟩)
  | s => s
def md (i t : Nat) : Value := match stm i with
  | .Assign _ (.Constant (.str s) _ _) _ => .str s t
  | _ => .none
def nmOf : Stmt → Str
  | .FunctionDef n _ _ _ _ _ _ _ _ _ => n
  | .ClassDef n _ _ _ _ _ _ _ _ _ _ => n
  | .Assign (.Name n _ :: _) _ _ => n
  | _ => Str.empty
def codeO (st : Stmt) (q : Str) (t line argc c : Nat) (four : Bool) (u : Nat) : Obj :=
  ⟨.type "code", none, .fields #[.str (nmOf st) t, .str q (t + 1), .str fl (t + 2), .int line 0, .int argc 0, .int 0 0, .int 0 0, .int 3 0, .ref c, .bool true, .int 181 0, .ref (c + 1), .none,
    match four with | true => .ref (c + 2) | false => .none, match four with | true => .ref (c + 3) | false => .none, .ref (match four with | true => c + 4 | false => c + 2), .int u 0, .int line 0, .str fl (u + 1)], #[]⟩
def funcO (st : Stmt) (q : Str) (m : Value) (c : Nat) : Obj := match st with
  | .FunctionDef n ps b _ _ _ sc _ _ _ => ⟨.type "function", none, .func (fnOf n q ps b sc .none .none .none m none (.ref c) .none), #[]⟩
  | _ => ⟨.none, none, .plain, #[]⟩
def ent (P : Params) (q : Str × Nat × Value) : DictEntry := ⟨PyData.keyHash P q.1, .str q.1 q.2.1, q.2.2⟩
def KQ (P : Params) : Frag :=
  [(3, ⟨.type "dict", none, .dict #[ent P ("__name__", 165, md 18 347), ent P ("__doc__", 166, .none), ent P ("__package__", 167, .none), ent P ("__loader__", 168, .builtin "__main__.__loader__#opaque"), ent P ("__spec__", 169, .none), ent P ("__annotations__", 170, .ref 6), ent P ("__builtins__", 171, .ref 4), ent P ("__file__", 173, .str fl 172), ent P ("__cached__", 174, .none), ent P (nmOf (stm 1), 230, .ref 38), ent P (nmOf (stm 2), 241, .ref 49), ent P (nmOf (stm 3), 250, .ref 56), ent P (nmOf (stm 5), 260, .ref 63), ent P (nmOf (stm 6), 268, .ref 70), ent P (nmOf (stm 7), 276, .ref 77), ent P (nmOf (stm 8), 283, .ref 84), ent P (nmOf (stm 9), 291, .ref 91), ent P (nmOf (stm 10), 300, .ref 98), ent P (nmOf (stm 11), 310, .ref 105), ent P (nmOf (stm 13), 314, .int 40 313), ent P (nmOf (stm 14), 316, .int 2 315), ent P (nmOf (stm 15), 318, .int 1 317), ent P (nmOf (stm 16), 326, .ref 112), ent P (nmOf (stm 17), 346, .ref 119), ent P (nmOf (stm 19), 357, .ref 126), ent P (nmOf (stm 20), 365, .ref 133), ent P (nmOf (stm 21), 373, .ref 140), ent P (nmOf (stm 22), 379, .ref 145), ent P (nmOf (stm 23), 385, .ref 150), ent P (nmOf (stm 24), 391, .ref 155), ent P (nmOf (stm 25), 397, .ref 160), ent P (nmOf (stm 26), 403, .ref 165), ent P (nmOf (stm 27), 409, .ref 170), ent P (nmOf (stm 28), 415, .ref 175)] 34, #[]⟩),
    (37, ⟨.type "dict", none, .dict #[ent P ("__module__", 196, md 0 187), ent P ("__firstlineno__", 200, .int 2 199), ent P (nmOf (meth 0), 208, .ref 28), ent P (nmOf (meth 1), 221, .ref 35), ent P ("__static_attributes__", 223, .ref 36), ent P ("__dict__", 225, .ref 39), ent P ("__weakref__", 227, .ref 40), ent P ("__doc__", 228, .none)] 4, #[]⟩),
    (38, ⟨.type "type", none, .cls { name := nmOf (stm 1), bases := [.type "object"], mro := [.ref 38, .type "object"], ns := 37, qualname := nmOf (stm 1) }, #[none, none, some (.str (nmOf (stm 1)) 189), some (.str (nmOf (stm 1)) 197), some (.builtin "object.__new__"), some (.bool true)]⟩),
    (39, ⟨.type "getset_descriptor", none, .fields #[.str "__dict__" 224, .ref 38, .builtin "function.__dict__", .builtin "function.__dict__#set"], #[]⟩),
    (40, ⟨.type "getset_descriptor", none, .fields #[.str "__weakref__" 226, .ref 38, .builtin "ExceptionGroup.__weakref__", .none], #[]⟩),
    (27, codeO (meth 0) "TupleComp.__init__" 201 4 2 22 true 206), (28, funcO (meth 0) "TupleComp.__init__" (md 0 187) 27),
    (34, codeO (meth 1) "TupleComp.compare" 209 7 3 29 true 219), (35, funcO (meth 1) "TupleComp.compare" (md 0 187) 34),
    (48, codeO (stm 2) (nmOf (stm 2)) 231 16 2 43 true 239), (49, funcO (stm 2) (nmOf (stm 2)) (md 0 187) 48),
    (55, codeO (stm 3) (nmOf (stm 3)) 242 29 1 50 true 248), (56, funcO (stm 3) (nmOf (stm 3)) (md 0 187) 55),
    (62, codeO (stm 5) (nmOf (stm 5)) 253 35 2 57 true 258), (63, funcO (stm 5) (nmOf (stm 5)) (md 4 251) 62),
    (69, codeO (stm 6) (nmOf (stm 6)) 261 37 2 64 true 266), (70, funcO (stm 6) (nmOf (stm 6)) (md 4 251) 69),
    (76, codeO (stm 7) (nmOf (stm 7)) 269 39 2 71 true 274), (77, funcO (stm 7) (nmOf (stm 7)) (md 4 251) 76),
    (83, codeO (stm 8) (nmOf (stm 8)) 277 41 1 78 true 281), (84, funcO (stm 8) (nmOf (stm 8)) (md 4 251) 83),
    (90, codeO (stm 9) (nmOf (stm 9)) 284 43 2 85 true 289), (91, funcO (stm 9) (nmOf (stm 9)) (md 4 251) 90),
    (97, codeO (stm 10) (nmOf (stm 10)) 292 45 2 92 true 298), (98, funcO (stm 10) (nmOf (stm 10)) (md 4 251) 97),
    (104, codeO (stm 11) (nmOf (stm 11)) 301 50 2 99 true 308), (105, funcO (stm 11) (nmOf (stm 11)) (md 4 251) 104),
    (111, codeO (stm 16) (nmOf (stm 16)) 319 60 2 106 true 324), (112, funcO (stm 16) (nmOf (stm 16)) (md 12 311) 111),
    (118, codeO (stm 17) (nmOf (stm 17)) 327 66 3 113 true 344), (119, funcO (stm 17) (nmOf (stm 17)) (md 12 311) 118),
    (125, codeO (stm 19) (nmOf (stm 19)) 349 105 1 120 true 355), (126, funcO (stm 19) (nmOf (stm 19)) (md 18 347) 125),
    (132, codeO (stm 20) (nmOf (stm 20)) 358 110 1 127 true 363), (133, funcO (stm 20) (nmOf (stm 20)) (md 18 347) 132),
    (139, codeO (stm 21) (nmOf (stm 21)) 366 113 2 134 true 371), (140, funcO (stm 21) (nmOf (stm 21)) (md 18 347) 139),
    (144, codeO (stm 22) (nmOf (stm 22)) 374 115 1 141 false 377), (145, funcO (stm 22) (nmOf (stm 22)) (md 18 347) 144),
    (149, codeO (stm 23) (nmOf (stm 23)) 380 130 3 146 false 383), (150, funcO (stm 23) (nmOf (stm 23)) (md 18 347) 149),
    (154, codeO (stm 24) (nmOf (stm 24)) 386 146 5 151 false 389), (155, funcO (stm 24) (nmOf (stm 24)) (md 18 347) 154),
    (159, codeO (stm 25) (nmOf (stm 25)) 392 154 1 156 false 395), (160, funcO (stm 25) (nmOf (stm 25)) (md 18 347) 159),
    (164, codeO (stm 26) (nmOf (stm 26)) 398 165 4 161 false 401), (165, funcO (stm 26) (nmOf (stm 26)) (md 18 347) 164),
    (169, codeO (stm 27) (nmOf (stm 27)) 404 174 4 166 false 407), (170, funcO (stm 27) (nmOf (stm 27)) (md 18 347) 169),
    (174, codeO (stm 28) (nmOf (stm 28)) 410 179 1 171 false 413), (175, funcO (stm 28) (nmOf (stm 28)) (md 18 347) 174)]
def asQ : List Addr := [3, 37, 38, 39, 40, 27, 28, 34, 35, 48, 49, 55, 56, 62, 63, 69, 70, 76, 77, 83, 84, 90, 91, 97, 98, 104, 105, 111, 112, 118, 119, 125, 126, 132, 133, 139, 140, 144, 145, 149, 150, 154, 155, 159, 160, 164, 165, 169, 170, 174, 175]
def kq : Hook := kHook KQ asQ fun _ => by kernel_rfl
def vq : Program := view pw [1, 2, 3, 5, 6, 7, 8, 9, 10, 11, 13, 14, 15, 16, 17, 19, 20, 21, 22, 23, 24, 25, 26, 27, 28]
def xtG (q : Program) (s : Shared) : Bool := xlAt q [] s && recOk [] s
def xtq (s : Shared) : Bool := xtG vq s
def obsq (s : Shared) : List (Option Obj) := asQ.map s.heap.get?
def valq (w : World) : List (Option Obj) := (KQ w.params).map fun p => some p.2
noncomputable def hlG (p q : Program) (w : World) := (openEnds treeTable p w 2012).map (fun s => (openSeen q [] (importedModules p.main.body) (xtG q) true s, obsq s))
noncomputable def hr1 (w : World) := some (openGood vq [], valq w)
lay_quick hlG
theorem run_q (w : World) : PySem.W.Fast.tw8551856315501238779 pw vq w = hr1 w := by kernel_rfl
theorem xtq_and {s : Shared} (e : xtq s = true) : xlAt vq [] s = true ∧ recOk (RowW.records PySem.Challenge.rw_jc0019_01.row.toRowW) s = true := Bool.and_eq_true_iff.mp e
theorem left_q : LeftO pw vq [] xtq kq.obs kq.val 2012 := fun w =>
  (congrFun (congrFun (congrFun PySem.W.Fast.te8551856315501238779 pw) vq) w).trans (run_q w)
abbrev rq : OpenRow := PySem.Challenge.rw_jc0019_01.row
theorem look_q : (chainsOk vq && opensWell rq.prog && (frees rq.toRowW && rq.within.isEmpty)) = true := by decide +kernel
def wsG (l : OpenLaw) : Bool := l.wellSaid
lay_quick wsG
theorem said_t : PySem.W.Fast.tw6752274879689307559 PySem.Challenge.rw_jc0019_01 = true := by kernel_rfl
theorem said_q : PySem.Challenge.rw_jc0019_01.wellSaid = true := (congrFun PySem.W.Fast.te6752274879689307559 PySem.Challenge.rw_jc0019_01).trans said_t
theorem hd {d : DefRec} {kwd : List (Str × PySem.Expr)} (hdef : defOf vq rq.name = some (d, kwd)) (hp : rq.prog.theDef rq.name = some (d.params, d.body, d.scope)) (hk : kwWritten? d.params.kwonlyargs d.params.kw_defaults = some kwd)
    (walk : WalkO vq [] (XL vq []) kq.says rq.toRowW d kwd fun f vs => PySem.call f vs) : PySem.Challenge.rw_jc0019_01.Holds := by
  w_on
  refine holds_law said_q fun said => ?_
  refine PySem.W.holds_open (q := vq) (loose := []) (Xt := xtq) (XP := XL vq []) (Yf := kq.obs) (Ya := kq.val) (YP := kq.says) (N := 2012) left_q kq.of kq.keeps (fun s e => xl_of s (xtq_and e).1) XL.keeps hdef hp hk (fun s e => recFacts_of (xtq_and e).2) (by rfl) said look_q ⟨rfl, rfl, rfl, rfl, rfl, by decide +kernel⟩ ?hw walk
  w_witness2
/-! heaps -/
noncomputable def sub (h : Heap) (P : Addr → Prop) : Heap :=
  ⟨h.objs.mapIdx fun i o => open Classical in if P i then o else { o with data := .freed }, h.life⟩
theorem sub_get (h : Heap) (P : Addr → Prop) (a : Addr) : (P a → (sub h P).get? a = h.get? a) ∧ (¬ P a → (sub h P).get? a = none) := by
  obtain ⟨objs, l⟩ := h
  constructor
  · intro hp
    simp only [sub, Heap.get?, Array.getElem?_mapIdx]
    cases e : objs[a]? with
    | none => simp
    | some o => simp [hp]
  · intro hp
    simp only [sub, Heap.get?, Array.getElem?_mapIdx]
    cases e : objs[a]? with
    | none => simp
    | some o => simp [hp]

/-- wpAny, closed (a definition that opens itself into an 'all' is slow to elaborate) -/
structure WP {α : Type} (M : Model) (A : Around) (t : Sem α) (Q : α → Shared → Prop) (E : Value → Shared → Prop) (s : Shared) : Prop where
  out : wpAny M A t Q E s
section
variable {α β : Type} {M : Model} {A : Around} {E : Value → Shared → Prop} {s : Shared}
theorem WP.mono {t : Sem α} {Q Q' : α → Shared → Prop} (h : WP M A t Q E s) (hQ : ∀ a s, Q a s → Q' a s) : WP M A t Q' E s := by
  with_reducible exact ⟨wpAny_mono h.out hQ fun _ _ e => e⟩
theorem WP.in {t : Sem α} {t' : α → Sem β} {Q : β → Shared → Prop} (h : WP M A t (fun a s' => WP M A (t' a) Q E s') E s) : wpAny M A t (fun a s' => wpAny M A (t' a) Q E s') E s := by
  with_reducible exact wpAny_mono h.out (fun _ _ x => x.out) fun _ _ e => e
theorem WP.by {t : Sem α} {Q Q' : α → Shared → Prop} (h : WP M A t Q E s) (hQ : ∀ a s, Q a s → Q' a s) : wpAny M A t Q' E s := by
  with_reducible exact wpAny_mono h.out hQ fun _ _ e => e
end

structure Base (K : Frag) (G : Heap) : Prop where
  X : K.In G
  top : ∃ p loose mg mb, TopRead p loose mg mb G
theorem Base.mono {K : Frag} {G G' : Heap} (B : Base K G) (h : G.StaysIn G') : Base K G' :=
  ⟨B.X.keeps h, by obtain ⟨p, l, mg, mb, T⟩ := B.top; exact ⟨p, l, mg, mb, T.keeps h⟩⟩

structure After (g : Heap) (s : Shared) (g' : Heap) (s' : Shared) : Prop where
  gens : s'.gens = s.gens
  drawn : s'.drawn = s.drawn
  os : s'.os = s.os
  gg : g.StaysIn g'
  gh : g'.StaysIn s'.heap
  hh : s.heap.StaysIn s'.heap
  sep : ∀ a o, s.heap.get? a = some o → g.get? a = none → g'.get? a = none
theorem stays_refl (h : Heap) : h.StaysIn h := fun _ _ e => e
theorem stays_trans {a b c : Heap} (x : a.StaysIn b) (y : b.StaysIn c) : a.StaysIn c := fun _ _ e => y _ _ (x _ _ e)
theorem After.refl {g : Heap} {s : Shared} (h : g.StaysIn s.heap) : After g s g s := ⟨rfl, rfl, rfl, stays_refl g, h, stays_refl _, fun _ _ _ e => e⟩
theorem After.trans {g g' g'' : Heap} {s s' s'' : Shared} (x : After g s g' s') (y : After g' s' g'' s'') : After g s g'' s'' :=
  ⟨y.gens.trans x.gens, y.drawn.trans x.drawn, y.os.trans x.os, stays_trans x.gg y.gg, y.gh, stays_trans x.hh y.hh, fun a o e n => y.sep a o (x.hh a o e) (x.sep a o e n)⟩

/-- the frame at hand: S: the state that it began in, G: what stood frozen then, L: its locals -/
structure Par where
  S : Shared
  G : Heap
  L : Addr

abbrev Own := Addr × (Obj → Prop)
abbrev Loc := Str × Value
structure Cx (p : Par) (g : Heap) (s : Shared) (ls : List Loc) (mu : List Own) : Prop where
  af : After p.G p.S g s
  ns : ∃ m, s.heap.Ns p.L m ∧ ∀ q ∈ ls, m q.1 = some q.2
  nL : g.get? p.L = none
  hL : p.S.heap.get? p.L = none
  own : ∀ q ∈ mu, (∃ o, s.heap.get? q.1 = some o ∧ q.2 o) ∧ g.get? q.1 = none ∧ p.S.heap.get? q.1 = none ∧ q.1 ≠ p.L
  nd : mu.Pairwise (fun a b => a.1 ≠ b.1)

section
variable {p : Par} {g g' : Heap} {s s' : Shared} {ls ls' : List Loc} {mu mu' : List Own} {q : Own} {a : Addr} {o : Obj} {P P' : Obj → Prop}
/-- nothing of the heap turned -/
theorem Cx.same (C : Cx p g s ls mu) (hg : s'.gens = s.gens) (hd : s'.drawn = s.drawn) (ho : s'.os = s.os) (hh : s'.heap = s.heap) : Cx p g s' ls mu :=
  ⟨⟨hg.trans C.af.gens, hd.trans C.af.drawn, ho.trans C.af.os, C.af.gg, hh ▸ C.af.gh, hh ▸ C.af.hh, C.af.sep⟩, hh ▸ C.ns, C.nL, C.hL, hh ▸ C.own, C.nd⟩
theorem Cx.toks (C : Cx p g s ls mu) {t : Nat} : Cx p g { s with toks := t } ls mu := C.same rfl rfl rfl rfl
/-- the tokens told -/
abbrev tk (s : Shared) (t : Nat) : Shared := { s with toks := t }
theorem Cx.tk (C : Cx p g s ls mu) {t : Nat} : Cx p g (Mine.tk s t) ls mu := C.same rfl rfl rfl rfl
theorem un1 {R Q : Shared → Prop} (h : ∀ s' u', R s' → Q (Mine.tk s' u')) : ∀ s', R s' → Q s' := fun s' r => h s' s'.toks r
theorem un2 {α : Type} {R Q : α → Shared → Prop} (h : ∀ s' u' a, R a s' → Q a (Mine.tk s' u')) : ∀ s' a, R a s' → Q a s' := fun s' a r => h s' s'.toks a r
theorem un3 {α : Type} {R Q : α → Shared → Prop} (h : ∀ a s' u', R a s' → Q a (Mine.tk s' u')) : ∀ a s', R a s' → Q a s' := fun a s' r => h a s' s'.toks r
theorem Cx.gh (C : Cx p g s ls mu) : g.StaysIn s.heap := C.af.gh
theorem ns_some {h : Heap} {a : Addr} {m : Str → Option Value} (x : h.Ns a m) : ∃ o, h.get? a = some o := by obtain ⟨o, _, _, ho, _⟩ := x; exact ⟨o, ho⟩
theorem Cx.lobj (C : Cx p g s ls mu) : ∃ o, s.heap.get? p.L = some o := by obtain ⟨m, h, _⟩ := C.ns; exact ns_some h
/-- behind a call, a comprehension: all that stood stands -/
theorem Cx.after (C : Cx p g s ls mu) (x : After g s g' s') : Cx p g' s' ls mu :=
  ⟨C.af.trans x, (by obtain ⟨m, h, r⟩ := C.ns; exact ⟨m, h.keeps x.hh, r⟩), (by obtain ⟨o, ho⟩ := C.lobj; exact x.sep _ o ho C.nL), C.hL,
    fun q hq => by obtain ⟨⟨o, h1, h5⟩, h2, h3, h4⟩ := C.own q hq; exact ⟨⟨o, x.hh _ _ h1, h5⟩, x.sep _ _ h1 h2, h3, h4⟩, C.nd⟩
/-- the heap grown alone -/
theorem Cx.grow (C : Cx p g s ls mu) (hg : s'.gens = s.gens) (hd : s'.drawn = s.drawn) (ho : s'.os = s.os) (hh : s.heap.StaysIn s'.heap) : Cx p g s' ls mu :=
  C.after ⟨hg, hd, ho, stays_refl g, stays_trans C.gh hh, hh, fun _ _ _ e => e⟩
/-- a store into the locals -/
theorem Cx.store (C : Cx p g s ls mu) {h' : Heap} {t : Nat} {m' : Str → Option Value} (hn : h'.Ns p.L m') (hl : ∀ q ∈ ls', m' q.1 = some q.2) (hs : Heap.SameBut p.L s.heap h') : Cx p g { s with heap := h', toks := t } ls' mu := by
  have k : ∀ b o, b ≠ p.L → s.heap.get? b = some o → h'.get? b = some o := fun b o n e => (hs.2 b n).trans e
  refine ⟨⟨C.af.gens, C.af.drawn, C.af.os, C.af.gg, fun b o e => k b o (fun q => ?_) (C.gh b o e), fun b o e => k b o (fun q => ?_) (C.af.hh b o e), C.af.sep⟩, ⟨m', hn, hl⟩, C.nL, C.hL, fun q hq => ?_, C.nd⟩
  · have := C.nL; rw [← q, e] at this; cases this
  · have := C.hL; rw [← q, e] at this; cases this
  · obtain ⟨⟨o, h1, h5⟩, h2, h3, h4⟩ := C.own q hq; exact ⟨⟨o, k _ _ h4 h1, h5⟩, h2, h3, h4⟩
theorem get_size (h : Heap) : h.get? h.objs.size = none := by
  cases e : h.get? h.objs.size with
  | none => rfl
  | some o => exact absurd (Heap.lt_size e) (Nat.lt_irrefl _)
theorem stays_size {g h : Heap} (x : g.StaysIn h) : g.get? h.objs.size = none := by
  cases e : g.get? h.objs.size with
  | none => rfl
  | some o => have := x _ _ e; rw [get_size] at this; cases this
theorem push_stays (h : Heap) (o : Obj) : h.StaysIn (h.push o) := fun _ _ e => Heap.get?_push_of_some _ e
/-- an object made -/
theorem Cx.alloc (C : Cx p g s ls mu) {t : Nat} (hP : P o) (hf : o.isFreed = false) : Cx p g { s with heap := s.heap.push o, toks := t } ls ((s.heap.objs.size, P) :: mu) := by
  have C' : Cx p g { s with heap := s.heap.push o, toks := t } ls mu := C.grow rfl rfl rfl (push_stays _ _)
  refine ⟨C'.af, C'.ns, C'.nL, C'.hL, fun q hq => ?_, List.pairwise_cons.mpr ⟨fun q hq => ?_, C'.nd⟩⟩
  · rcases List.mem_cons.mp hq with rfl | hq
    · refine ⟨⟨o, Heap.get?_push_size _ hf, hP⟩, stays_size C.gh, stays_size C.af.hh, ?_⟩
      obtain ⟨ol, hol⟩ := C.lobj
      exact Ne.symm (Nat.ne_of_lt (Heap.lt_size hol))
    · exact C'.own q hq
  · obtain ⟨⟨o, h1, _⟩, _⟩ := C.own q hq
    exact Ne.symm (Nat.ne_of_lt (Heap.lt_size h1))
/-- an object of the frame's own turned -/
theorem Cx.turn (C : Cx p g s ls ((a, P) :: mu)) {h' : Heap} {o' : Obj} {t : Nat} (hs : Heap.ExtBut a s.heap h') (ho : h'.get? a = some o') (hP : P' o') : Cx p g { s with heap := h', toks := t } ls ((a, P') :: mu) := by
  obtain ⟨_, h2, h3, h4⟩ := C.own (a, P) (.head _)
  have k : ∀ b o, b ≠ a → s.heap.get? b = some o → h'.get? b = some o := fun b o n e => hs b o n e
  have nd := List.pairwise_cons.mp C.nd
  obtain ⟨m, ⟨oL, es, ep, hoL, r⟩, hm⟩ := C.ns
  refine ⟨⟨C.af.gens, C.af.drawn, C.af.os, C.af.gg, fun b o e => k b o (fun q => ?_) (C.gh b o e), fun b o e => k b o (fun q => ?_) (C.af.hh b o e), C.af.sep⟩,
    ⟨m, ⟨oL, es, ep, k _ _ (Ne.symm h4) hoL, r⟩, hm⟩, C.nL, C.hL, fun q hq => ?_, List.pairwise_cons.mpr nd⟩
  · rw [← q, e] at h2; cases h2
  · rw [← q, e] at h3; cases h3
  · rcases List.mem_cons.mp hq with rfl | hq
    · exact ⟨⟨o', ho, hP⟩, h2, h3, h4⟩
    · obtain ⟨⟨o, k1, k5⟩, k2, k3, k4⟩ := C.own q (.tail _ hq)
      exact ⟨⟨o, k _ _ (Ne.symm (nd.1 q hq)) k1, k5⟩, k2, k3, k4⟩
theorem Cx.perm (C : Cx p g s ls mu) (h : mu.Perm mu') : Cx p g s ls mu' :=
  ⟨C.af, C.ns, C.nL, C.hL, fun q hq => C.own q (h.mem_iff.mpr hq), (h.pairwise_iff fun {_ _} e => Ne.symm e).mp C.nd⟩
theorem Cx.drop (C : Cx p g s ls (q :: mu)) : Cx p g s ls mu :=
  ⟨C.af, C.ns, C.nL, C.hL, fun q hq => C.own q (.tail _ hq), (List.pairwise_cons.mp C.nd).2⟩
theorem Cx.at (C : Cx p g s ls ((a, P) :: mu)) : ∃ o, s.heap.get? a = some o ∧ P o := (C.own (a, P) (.head _)).1
theorem Cx.owns (C : Cx p g s ls mu) (h : (a, P) ∈ mu) : ∃ o, s.heap.get? a = some o ∧ P o := (C.own (a, P) h).1
theorem Cx.less (C : Cx p g s ls mu) (h : ∀ q ∈ ls', q ∈ ls) : Cx p g s ls' mu := ⟨C.af, by obtain ⟨m, a, b⟩ := C.ns; exact ⟨m, a, fun q hq => b q (h q hq)⟩, C.nL, C.hL, C.own, C.nd⟩
/-- an own object frozen -/
theorem Cx.freeze (C : Cx p g s ls ((a, P) :: mu)) : ∃ g', Cx p g' s ls mu ∧ g.StaysIn g' ∧ ∃ o, g'.get? a = some o ∧ P o := by
  obtain ⟨⟨o, h1, h5⟩, h2, h3, h4⟩ := C.own (a, P) (.head _)
  have nd := List.pairwise_cons.mp C.nd
  have G : ∀ b, (sub s.heap fun b => (∃ o, g.get? b = some o) ∨ b = a).get? b = if b = a then s.heap.get? a else g.get? b := fun b => by
    by_cases hb : b = a
    · rw [if_pos hb, (sub_get _ _ _).1 (.inr hb), hb]
    · rw [if_neg hb]
      cases e : g.get? b with
      | none => rw [(sub_get _ _ _).2 (by rintro (⟨o, q⟩ | q); { rw [e] at q; cases q }; exact hb q)]
      | some o' => rw [(sub_get _ _ _).1 (.inl ⟨o', e⟩)]; exact C.gh _ _ e
  refine ⟨_, ⟨⟨C.af.gens, C.af.drawn, C.af.os, fun b o e => ?_, fun b o e => ?_, C.af.hh, fun b o e n => ?_⟩, C.ns, ?_, C.hL, fun q hq => ?_, nd.2⟩, fun b o e => ?_, o, by rw [G, if_pos rfl, h1], h5⟩
  · rw [G, if_neg (fun q => by have := C.af.gg _ _ e; rw [q, h2] at this; cases this)]; exact C.af.gg _ _ e
  · rw [G] at e
    split at e
    · rename_i q; rw [q]; exact e
    · exact C.gh _ _ e
  · rw [G, if_neg (fun q => by rw [q, h3] at e; cases e)]; exact C.af.sep _ _ e n
  · rw [G, if_neg (Ne.symm h4)]; exact C.nL
  · obtain ⟨⟨o', k1, k5⟩, k2, k3, k4⟩ := C.own q (.tail _ hq)
    exact ⟨⟨o', k1, k5⟩, by rw [G, if_neg (Ne.symm (nd.1 q hq))]; exact k2, k3, k4⟩
  · rw [G, if_neg (fun q => by rw [q, h2] at e; cases e)]; exact e
end

/-- room for n defs, one in the other -/
structure Fit (n : Nat) (A : Around) : Prop where
  hh : A.handled = none
  d : A.depth + n < 900
  u : A.units + 20 * n + 20 < 2000
theorem lim_is : recursionLimit = 1000 := rfl
theorem Fit.room {n : Nat} {A : Around} (f : Fit n A) : A.depth < recursionLimit := by have := f.d; rw [lim_is]; omega
theorem Fit.units {n : Nat} {A : Around} (f : Fit n A) : A.units < cLine := by have := f.u; have := cLine_is; omega
theorem Fit.deeper {n : Nat} {A : Around} (f : Fit (n + 1) A) (env : Env) : Fit n (A.deeper env) := ⟨f.hh, by have := f.d; show A.depth + 1 + n < 900; omega, by have := f.u; show A.units + 3 + 20 * n + 20 < 2000; omega⟩
theorem Fit.le {n k : Nat} {A : Around} (f : Fit n A) (h : k ≤ n) : Fit k A := ⟨f.hh, by have := f.d; omega, by have := f.u; omega⟩

/-- a contract: f, called with these arguments where g stands frozen, comes back with what Post tells -/
def Ct (prog : Program) (w : World) (n : Nat) (g : Heap) (f : Value) (args : List Value) (Post : Heap → Value → Prop) : Prop :=
  ∀ (A : Around) (s : Shared) (Q : Value → Shared → Prop) (E : Value → Shared → Prop), Fit n A → g.StaysIn s.heap →
    (∀ v g' s', After g s g' s' → Post g' v → Q v s') → WP (model prog w) A (call f args) Q E s
theorem Ct.use {prog : Program} {w : World} {n k : Nat} {g : Heap} {f : Value} {args : List Value} {Post : Heap → Value → Prop} (c : Ct prog w k g f args Post) {A : Around} (fit : Fit n A) (hn : k ≤ n)
    {p : Par} {s : Shared} {ls : List Loc} {mu : List Own} (C : Cx p g s ls mu) {Q : Value → Shared → Prop} {E : Value → Shared → Prop}
    (h : ∀ v g' s' u', Cx p g' s' ls mu → g.StaysIn g' → Post g' v → Q v (Mine.tk s' u')) : WP (model prog w) A (call f args) Q E s :=
  c A s Q E (fit.le hn) C.gh fun v g' s' x P => h v g' s' s'.toks (C.after x) x.gg P
structure En (env : Env) (L : Addr) (ks : List (Str × NameKind)) : Prop where
  kind : env.scope.kind = .function
  loc : env.locals = L
  glob : env.globals = mainGlobals
  bt : env.builtins = builtinsNs
  ks : ∀ q ∈ ks, env.kindOf q.1 = some q.2

/-- x's fact among these -/
inductive Drop (x : Str) : List Loc → List Loc → Prop
  | nil : Drop x [] []
  | hit {v : Value} {r r' : List Loc} : Drop x r r' → Drop x ((x, v) :: r) r'
  | skip {y : Str} {v : Value} {r r' : List Loc} : y ≠ x → Drop x r r' → Drop x ((y, v) :: r) ((y, v) :: r')
inductive Pick {α : Type} (q : α) : List α → List α → Prop
  | here {r : List α} : Pick q (q :: r) r
  | there {y : α} {r r' : List α} : Pick q r r' → Pick q (y :: r) (y :: r')
theorem Pick.perm {α : Type} {q : α} {l l' : List α} (h : Pick q l l') : l.Perm (q :: l') := by
  induction h with
  | here => exact List.Perm.refl _
  | there _ ih => exact (List.Perm.cons _ ih).trans (List.Perm.swap _ _ _)
theorem Pick.mem {α : Type} {q : α} {l l' : List α} (h : Pick q l l') : q ∈ l := h.perm.mem_iff.mpr (.head _)

section
variable {K : Frag} {prog : Program} {w : World} {M : Model} {A : Around} {E : Value → Shared → Prop} {p : Par} {g : Heap} {s : Shared} {ls ls' : List Loc} {mu mu' : List Own} {env : Env} {ks : List (Str × NameKind)} {x : Str} {pos : Pos} {v : Value} {Q : Value → Shared → Prop} {c : Addr} {n : Nat}

theorem nm_load (C : Cx p g s ls mu) (H : En env p.L ks) (hk : (x, NameKind.local) ∈ ks) (hv : (x, v) ∈ ls) (h : Q v (tk s n)) : WP M A (loadName env x) Q E (tk s n) := by
  have C := C.tk (t := n)
  obtain ⟨m, hn, hm⟩ := C.ns
  with_reducible exact ⟨wpAny_loadName_local H.kind (H.ks _ hk) (by rw [H.loc]; exact hn) (hm _ hv) h⟩
theorem nm_local (C : Cx p g s ls mu) (H : En env p.L ks) (hk : (x, NameKind.local) ∈ ks) (hv : (x, v) ∈ ls) (h : Q v (tk s n))
    (hd : (x == ("__debug__" : Str)) = false := by kernel_rfl) : WP M A (eval (.Name x pos) env) Q E (tk s n) := by
  have C₀ := C
  with_reducible exact ⟨wpAny_Name (nm_load (n := n) C₀ H hk hv h).out hd⟩
theorem nm_global (B : Base K p.G) (C : Cx p g s ls mu) (H : En env p.L ks) (hk : (x, NameKind.globalImplicit) ∈ ks) (hv : nsIn K mainGlobals x = some (some v)) (h : Q v (tk s n))
    (hd : (x == ("__debug__" : Str)) = false := by kernel_rfl) : WP M A (eval (.Name x pos) env) Q E (tk s n) := by
  have C := C.tk (t := n)
  obtain ⟨pr, l, mg, mb, T⟩ := (B.mono C.af.gg).mono C.gh |>.top
  have B' := (B.mono C.af.gg).mono C.gh
  have e : (K.In s.heap) := B'.X
  have q : s.heap.Ns env.globals mg := by rw [H.glob]; exact T.g
  have r := mg_of e T.g hv
  with_reducible exact ⟨Name_function_global H.kind (H.ks _ hk) (loadGlobal_global q r h) hd⟩
theorem nm_builtin (B : Base K p.G) (C : Cx p g s ls mu) (H : En env p.L ks) (hk : (x, NameKind.globalImplicit) ∈ ks) (hv : nsIn K mainGlobals x = some none ∧ bootBuiltins x = some v ∧ x ≠ "__name__") (h : Q v (tk s n))
    (hd : (x == ("__debug__" : Str)) = false := by kernel_rfl) : WP M A (eval (.Name x pos) env) Q E (tk s n) := by
  have C := C.tk (t := n)
  obtain ⟨pr, l, mg, mb, T⟩ := (B.mono C.af.gg).mono C.gh |>.top
  have B' := (B.mono C.af.gg).mono C.gh
  have q : s.heap.Ns env.globals mg := by rw [H.glob]; exact T.g
  have q' : s.heap.Ns env.builtins mb := by rw [H.bt]; exact T.b
  have r := mg_none_of B'.X T.g hv.1
  have r' := (T.builtins x hv.2.2).trans hv.2.1
  with_reducible exact ⟨Name_function_global H.kind (H.ks _ hk) (loadGlobal_builtin q r q' r' h) hd⟩

abbrev isCell (v : Option Value) : Obj → Prop := fun o => o.data = .cell v
/-- a cell of the def's own -/
theorem nm_cell (C : Cx p g s ls mu) (H : En env p.L ks) (hk : (x, NameKind.cell) ∈ ks) (hc : env.cells.lookup x = some c) (hv : (c, isCell (some v)) ∈ mu) (h : Q v (tk s n))
    (hd : (x == ("__debug__" : Str)) = false := by kernel_rfl) : WP M A (eval (.Name x pos) env) Q E (tk s n) := by
  have C := C.tk (t := n)
  obtain ⟨o, ho, hP⟩ := C.owns hv
  have q : s.heap.IsCell c (some v) := ⟨o, ho, hP⟩
  with_reducible exact ⟨wpAny_Name (wpAny_loadName_cell H.kind (H.ks _ hk) hc q h) hd⟩
/-- what a comprehension captures: it stands as it stood when the comprehension began -/
def Caps (h : Heap) (env : Env) (cs : List Loc) : Prop := ∀ q ∈ cs, env.kindOf q.1 = some .cell ∧ ∃ c, env.cells.lookup q.1 = some c ∧ h.IsCell c (some q.2)
theorem nm_cap {cs : List Loc} (C : Cx p g s ls mu) (H : En env p.L ks) (Y : Caps p.S.heap env cs) (hv : (x, v) ∈ cs) (h : Q v (tk s n))
    (hd : (x == ("__debug__" : Str)) = false := by kernel_rfl) : WP M A (eval (.Name x pos) env) Q E (tk s n) := by
  have C := C.tk (t := n)
  obtain ⟨hk, c, hc, o, ho, hP⟩ := Y _ hv
  have q : s.heap.IsCell c (some v) := ⟨o, C.af.hh _ _ ho, hP⟩
  with_reducible exact ⟨wpAny_Name (wpAny_loadName_cell H.kind hk hc q h) hd⟩

theorem drop_mem {q : Loc} (h : Drop x ls ls') (hq : q ∈ ls') : q ∈ ls ∧ q.1 ≠ x := by
  induction h with
  | nil => cases hq
  | hit _ ih => exact ⟨.tail _ (ih hq).1, (ih hq).2⟩
  | skip n _ ih => cases hq with
    | head => exact ⟨.head _, n⟩
    | tail _ m => exact ⟨.tail _ (ih m).1, (ih m).2⟩
/-- x's store: the names' facts but x's stay -/
theorem st_local (C : Cx p g s ls mu) (H : En env p.L ks) (hk : (x, NameKind.local) ∈ ks) (hl : ∀ q ∈ ls', q ∈ ls ∧ q.1 ≠ x) {Q : Unit → Shared → Prop} (h : ∀ s' u', Cx p g s' ((x, v) :: ls') mu → Q () (tk s' u')) : WP M A (storeName env x v) Q E s := by
  have h := un1 h
  obtain ⟨m, hn, hm⟩ := C.ns
  constructor
  have e1 : (env.scope.kind == .class || (env.scope.kind == .module && env.locals != env.globals)) = false := by rw [H.kind]; rfl
  have e2 : s.heap.Ns env.locals m := by rw [H.loc]; exact hn
  with_reducible refine wpAny_storeName_local (H.ks _ hk) e2 (fun h' hn' hs => h _ ?_) e1
  rw [H.loc] at hn' hs
  refine C.store hn' (fun q hq => ?_) hs
  rcases List.mem_cons.mp hq with rfl | hq
  · show (if x = x then some v else m x) = some v
    rw [if_pos rfl]
  · show (if q.1 = x then some v else m q.1) = some q.2
    rw [if_neg (hl q hq).2]; exact hm q (hl q hq).1
theorem st_drop (C : Cx p g s ls mu) (H : En env p.L ks) (hk : (x, NameKind.local) ∈ ks) (hl : Drop x ls ls') {Q : Unit → Shared → Prop} (h : ∀ s' u', Cx p g s' ((x, v) :: ls') mu → Q () (tk s' u')) : WP M A (storeName env x v) Q E s :=
  st_local C H hk (fun _ hq => drop_mem hl hq) h
/-- a cell's store -/
theorem st_cell {v₀ : Option Value} (C : Cx p g s ls mu) (H : En env p.L ks) (hk : (x, NameKind.cell) ∈ ks) (hc : env.cells.lookup x = some c) (hv : Pick (c, isCell v₀) mu mu') {Q : Unit → Shared → Prop}
    (h : ∀ s' u', Cx p g s' ls ((c, isCell (some v)) :: mu') → Q () (tk s' u')) : WP M A (storeName env x v) Q E s := by
  have h := un1 h
  constructor
  have C' := C.perm hv.perm
  obtain ⟨o, ho, hP⟩ := C'.at
  have q : s.heap.IsCell c v₀ := ⟨o, ho, hP⟩
  with_reducible refine wpAny_storeName_cell H.kind (H.ks _ hk) hc q fun h' hi hs => h _ ?_
  obtain ⟨o', ho', hd'⟩ := hi
  exact C'.turn hs.extBut ho' hd'
end

/-- a def with no cells is entered -/
theorem enter {prog : Program} {w : World} {K : Frag} {A : Around} {n : Nat} {g : Heap} {s : Shared} {Q : Value → Shared → Prop} {E : Value → Shared → Prop} {f : Addr} {args : List Value} {binds : List Loc} {ks : List (Str × NameKind)}
    {name qual : Str} {params : Arguments} {body : List Stmt} {scope : Scope} {dV kV doc pm cdv ct oc : Value} {an od : Option Addr} {osl : Array (Option Value)}
    (fit : Fit (n + 1) A) (B : Base K g) (hg : g.StaysIn s.heap) (ho : K.lookup f = some ⟨oc, od, .func (fnOf name qual params body scope dV kV doc pm an cdv ct), osl⟩) (hcd : codeIn K cdv qual = true)
    (hbind : bindArgs (fnOf name qual params body scope dV kV doc pm an cdv ct) ⟨args, []⟩ = pure binds)
    (hlook : (binds.all fun q => scope.names.lookup q.1 == some .local) = true) (hnd : decide ((binds.map (·.1)).Nodup) = true) (hks : (ks.all fun q => scope.names.lookup q.1 == some q.2) = true)
    (hcell : (scope.names.all fun q => q.2 != .cell) = true) (hco : scope.isCoroutine = false) (hgen : scope.isGenerator = false) (hk : scope.kind = .function)
    (h : ∀ A' env L s₁ u₁, Fit n A' → En env L ks → Cx ⟨s, g, L⟩ g s₁ binds [] → WP (model prog w) A' (execs body env) (fun fl s' => Q (match fl with | .ret v => v | _ => .none) s') (fun _ _ => False) (tk s₁ u₁)) :
    WP (model prog w) A (call (.ref f) args) Q E s := by
  have B' := B.mono hg
  constructor
  obtain ⟨pr, l, mg, mb, T⟩ := B'.top
  have c1 : ∀ q ∈ scope.names, q.2 ≠ .cell := fun q hq e => by have := List.all_eq_true.mp hcell q hq; rw [e] at this; exact absurd this (by decide)
  have c2 : ∀ q ∈ binds, scope.names.lookup q.1 = some .local := fun q hq => by have := List.all_eq_true.mp hlook q hq; simpa using this
  have c3 : ∀ q ∈ ks, scope.names.lookup q.1 = some q.2 := fun q hq => by have := List.all_eq_true.mp hks q hq; simpa using this
  have key : ∀ h₁, h₁.Ns s.heap.objs.size (fun x => binds.reverse.lookup x) → (∀ b o, s.heap.get? b = some o → h₁.get? b = some o) →
      Cx ⟨s, g, s.heap.objs.size⟩ g { s with heap := h₁, toks := s.toks + binds.length } binds [] := fun h₁ hns hk₁ => ?_
  · refine @wpAny_call _ _ _ _ _ _ _ _ (codeAny_call_def (fd := fnOf name qual params body scope dV kV doc pm an cdv ct) (binds := binds) fit.room (B'.X _ _ ho) rfl T.nolimit (codeRec_of B'.X hcd) rfl (BindsTo.of_eq hbind)
      c1 c2 (fun h₁ hns hk₁ => ?_) hco hgen hk)
    have hw := h _ (callEnv (fnOf name qual params body scope dV kV doc pm an cdv ct) s.heap.objs.size f) s.heap.objs.size { s with heap := h₁, toks := s.toks + binds.length } (s.toks + binds.length) (fit.deeper (callEnv (fnOf name qual params body scope dV kV doc pm an cdv ct) s.heap.objs.size f)) ⟨hk, rfl, rfl, rfl, c3⟩ (key h₁ hns hk₁)
    with_reducible refine wpAny_mono hw.out (fun _ _ q => ?_) fun _ _ e => e.elim
    exact q
  refine ⟨⟨rfl, rfl, rfl, stays_refl g, fun b o e => hk₁ _ _ (hg _ _ e), hk₁, fun _ _ _ e => e⟩, ⟨_, hns, fun q hq => ?_⟩, stays_size hg, get_size _, (fun q hq => nomatch hq), .nil⟩
  have : (binds.reverse.map (·.1)).Nodup := by rw [List.map_reverse]; exact (List.reverse_perm _).nodup_iff.mpr (of_decide_eq_true hnd)
  have key : ∀ (l : List Loc), (l.map (·.1)).Nodup → ∀ q ∈ l, l.lookup q.1 = some q.2 := by
    intro l
    induction l with
    | nil => intro _ q hq; cases hq
    | cons y r ih =>
      intro hn q hq
      rw [List.map_cons, List.nodup_cons] at hn
      rcases List.mem_cons.mp hq with rfl | hq'
      · obtain ⟨a, b⟩ := q; simp
      · obtain ⟨a, b⟩ := y
        have : (q.1 == a) = false := by
          rw [beq_eq_false_iff_ne]
          intro e
          exact hn.1 (List.mem_map.mpr ⟨q, hq', e⟩)
        rw [List.lookup_cons, this]
        exact ih hn.2 q hq'
  exact key _ this q (List.mem_reverse.mpr hq)
section
variable {prog : Program} {w : World} {M : Model} {A : Around} {E : Value → Shared → Prop} {p : Par} {g : Heap} {s : Shared} {ls ls' : List Loc} {mu mu' : List Own} {env : Env} {ks : List (Str × NameKind)} {x y : Str} {pos : Pos} {v : Value} {Q : Value → Shared → Prop} {a b : Int} {t u : Tok} {k n : Nat}

theorem x_int (h : Q (.int a n) (tk s (n + 1))) : WP M A (eval (.Constant (.int a) k pos) env) Q E (tk s n) := by
  with_reducible exact ⟨wpAny_Constant_int h⟩
theorem x_str (h : Q (.str x n) (tk s (n + 1))) : WP M A (eval (.Constant (.str x) k pos) env) Q E (tk s n) := by
  with_reducible exact ⟨wpAny_Constant_str h⟩
theorem x_add (h : Q (.int (a + b) n) (tk s (n + 1))) : WP (model prog w) A (binaryOp .Add (.int a t) (.int b u)) Q E (tk s n) := by
  with_reducible exact ⟨P.add_int h⟩
theorem x_iadd (h : Q (.int (a + b) n) (tk s (n + 1))) : WP (model prog w) A (inplaceOp .Add (.int a t) (.int b u)) Q E (tk s n) := by
  with_reducible exact ⟨P.iadd_int h⟩
theorem x_sub (h : Q (.int (a - b) n) (tk s (n + 1))) : WP (model prog w) A (binaryOp .Sub (.int a t) (.int b u)) Q E (tk s n) := by
  with_reducible exact ⟨P.sub_int h⟩
theorem x_isub (h : Q (.int (a - b) n) (tk s (n + 1))) : WP (model prog w) A (inplaceOp .Sub (.int a t) (.int b u)) Q E (tk s n) := by
  with_reducible exact ⟨P.isub_int h⟩
theorem bits_small {b : Int} (h1 : -1000 ≤ b) (h2 : b ≤ 1000) : Builtin.Int.intBits b ≤ 64 := intBits_le_64 (by omega) (by omega)
theorem x_mul (hb : (-1000 ≤ a ∧ a ≤ 1000) ∨ (-1000 ≤ b ∧ b ≤ 1000)) (h : Q (.int (a * b) n) (tk s (n + 1))) : WP (model prog w) A (binaryOp .Mult (.int a t) (.int b u)) Q E (tk s n) := by
  have hm : IntMulOk a b := by rcases hb with q | q; { exact IntMulOk.of_left (bits_small q.1 q.2) }; exact IntMulOk.of_right (bits_small q.1 q.2)
  with_reducible exact ⟨P.mul_int h hm⟩
theorem x_fdiv (h1 : 0 < b) (h2 : b < 1000) (h : Q (.int (a.fdiv b) n) (tk s (n + 1))) : WP (model prog w) A (binaryOp .FloorDiv (.int a t) (.int b u)) Q E (tk s n) := by
  have h3 : b ≠ 0 := by omega
  have h4 : b.natAbs < 1073741824 := by omega
  with_reducible exact ⟨PyProof.Rows.floordiv_int h3 h (.inl (PyProof.noPylong_small h4))⟩
theorem x_mod (h1 : 0 < b) (h : Q (.int (a.fmod b) n) (tk s (n + 1))) : WP (model prog w) A (binaryOp .Mod (.int a t) (.int b u)) Q E (tk s n) := by
  have h3 : b ≠ 0 := by omega
  with_reducible exact ⟨mod_int' h3 h⟩
theorem x_pow2 {e : Int} (h1 : 0 ≤ e) (h2 : e < 1000) (h : Q (.int (2 ^ e.toNat) n) (tk s (n + 1))) : WP (model prog w) A (binaryOp .Pow (.int 2 t) (.int e u)) Q E (tk s n) := by
  have h3 : e ≤ 1000000 := by omega
  have h4 : (2 : Int).natAbs < 2 ^ 64 := by decide
  with_reducible exact ⟨pow_int_small h1 h3 h4 h⟩
theorem x_neg (h : Q (.int (-a) n) (tk s (n + 1))) : WP (model prog w) A (unaryOp .USub (.int a t)) Q E (tk s n) := by
  with_reducible exact ⟨P.neg_int h⟩
theorem cps_beq (x y : Str) : (x.cps.toList == y.cps.toList) = decide (x = y) := by
  by_cases hne : x = y
  · subst hne; simp
  · rw [decide_eq_false hne]
    refine beq_eq_false_iff_ne.mpr fun hl => hne ?_
    cases x; cases y
    simp only [Str.mk.injEq]
    exact Array.toList_inj.mp hl
theorem x_eqs (h : Q (.bool (decide (x = y))) s) : WP (model prog w) A (compareOp .Eq (.str x t) (.str y u)) Q E s := by
  rw [← cps_beq] at h
  with_reducible exact ⟨P.eq_str h⟩
theorem x_nes (h : Q (.bool (!decide (x = y))) s) : WP (model prog w) A (compareOp .NotEq (.str x t) (.str y u)) Q E s := by
  rw [← cps_beq] at h
  exact ⟨@P.ne_str _ _ _ _ _ _ _ _ _ _ h⟩
theorem x_addstr (hl : (x ++ y).length ≤ sizeLine) (h : ∀ t n', Q (.str (x ++ y) t) (tk s n')) : WP (model prog w) A (binaryOp .Add (.str x t) (.str y u)) Q E (tk s n) := by
  have e0 : ∀ {z : Str}, (z.length == 0) = true → z = Str.empty := fun {z} q => by
    obtain ⟨c⟩ := z
    have : c = #[] := Array.size_eq_zero_iff.mp (by simpa [Str.length] using q)
    rw [this]; rfl
  have key : (if x.length == 0 then Made.val (.str y u) else if y.length == 0 then Made.val (.str x t) else Made.str (x ++ y)).post Q (tk s n) := by
    split
    · rename_i q
      have := h u n
      rw [e0 q, Str.empty_append] at this
      exact this
    · split
      · rename_i q
        have := h t n
        rw [e0 q, Str.append_empty] at this
        exact this
      · exact ⟨hl, h _ _⟩
  with_reducible exact ⟨P.add_str key⟩
theorem b_true {P : Bool → Prop} {b : Bool} (h1 : b = true → P true) (h2 : b = false → P false) : P b := by cases b; exact h2 rfl; exact h1 rfl
theorem if_cases {c : Prop} [Decidable c] {α : Prop} {β : Prop} (h1 : c → α) (h2 : ¬ c → β) : if c then α else β := by split; exact h1 ‹_›; exact h2 ‹_›
end
/-- what follows a statement: the rest of its block, or an end of the block -/
def Then (M : Model) (A : Around) (rest : List Stmt) (env : Env) (Q : Flow → Shared → Prop) (E : Value → Shared → Prop) (f : Flow) (s : Shared) : Prop := match f with
  | .next => WP M A (execs rest env) Q E s
  | f => Q f s
section
variable {M : Model} {A : Around} {E : Value → Shared → Prop} {s : Shared} {env : Env} {pos pos' : Pos} {rest : List Stmt} {Q : Flow → Shared → Prop} {x : Str} {v : Value}
theorem Then.next (h : WP M A (execs rest env) Q E s) : Then M A rest env Q E .next s := h
theorem Then.ret (h : Q (.ret v) s) : Then M A rest env Q E (.ret v) s := h
theorem Then.brk (h : Q .brk s) : Then M A rest env Q E .brk s := h
theorem Then.cont (h : Q .cont s) : Then M A rest env Q E .cont s := h
theorem k_nil (h : Q .next s) : WP M A (execs [] env) Q E s := by with_reducible exact ⟨wpAny_execs_nil h⟩
theorem k_cons {st : Stmt} (h : WP M A (exec st env) (Then M A rest env Q E) E s) : WP M A (execs (st :: rest) env) Q E s := by
  constructor
  with_reducible refine wpAny_execs_cons (wpAny_mono h.out (fun f s' h' => ?_) fun _ _ e => e)
  cases f <;> first | exact h'.out | exact h'
theorem k_ret {e : Expr} (h : WP M A (eval e env) (fun v s' => Q (.ret v) s') E s) : WP M A (execs (.Return (some e) pos :: rest) env) Q E s :=
  k_cons (by with_reducible exact ⟨wpAny_Return_some (h.by fun _ _ x => Then.ret x)⟩)
theorem k_asg {value : Expr} (h : WP M A (eval value env) (fun v s₁ => WP M A (storeName env x v) (fun _ s₂ => WP M A (execs rest env) Q E s₂) E s₁) E s)
    (hs : swapsWith value (some (.Name x pos')) pos.line env = pure false) : WP M A (execs (.Assign [.Name x pos'] value pos :: rest) env) Q E s :=
  k_cons (by with_reducible exact ⟨wpAny_Assign_Name (h.mono fun _ _ x => ⟨x.by fun _ _ y => Then.next y⟩).in hs⟩)
theorem k_aug {op : Operator} {value : Expr} (h : WP M A (loadName env x) (fun old s₁ => WP M A (eval value env) (fun v s₂ => WP M A (inplaceOp op old v) (fun r s₃ => WP M A (storeName env x r) (fun _ s₄ => WP M A (execs rest env) Q E s₄) E s₃) E s₂) E s₁) E s) :
    WP M A (execs (.AugAssign (.Name x pos') op value pos :: rest) env) Q E s :=
  k_cons (by with_reducible exact ⟨wpAny_AugAssign_Name (h.by fun _ _ x => x.by fun _ _ x => x.by fun _ _ x => x.by fun _ _ y => Then.next y)⟩)
theorem k_put {o i value : Expr} (h : WP M A (eval value env) (fun v s₁ => WP M A (eval o env) (fun ov s₂ => WP M A (eval i env) (fun iv s₃ => WP M A (setItem ov iv v) (fun _ s₄ => WP M A (execs rest env) Q E s₄) E s₃) E s₂) E s₁) E s)
    (hs : swapsWith value (some (.Subscript o i pos')) pos.line env = pure false) : WP M A (execs (.Assign [.Subscript o i pos'] value pos :: rest) env) Q E s :=
  k_cons (by with_reducible exact ⟨wpAny_Assign_Subscript (h.by fun _ _ x => x.by fun _ _ x => x.by fun _ _ x => x.by fun _ _ y => Then.next y) hs⟩)
theorem k_augput {o i value : Expr} {op : Operator} (h : WP M A (eval o env) (fun ov s₁ => WP M A (eval i env) (fun iv s₂ => WP M A (getItem ov iv) (fun old s₃ => WP M A (eval value env) (fun v s₄ => WP M A (inplaceOp op old v) (fun new s₅ =>
      WP M A (setItem ov iv new) (fun _ s₆ => WP M A (execs rest env) Q E s₆) E s₅) E s₄) E s₃) E s₂) E s₁) E s)
    (ha : ∀ ov iv new, augStore i ov iv new = (do holding [new, ov, iv] (setItem ov iv new); release [new, ov, iv] []; pure .next)) : WP M A (execs (.AugAssign (.Subscript o i pos') op value pos :: rest) env) Q E s :=
  k_cons (by with_reducible exact ⟨wpAny_AugAssign_Subscript_any (h.by fun _ _ x => x.by fun _ _ x => x.by fun _ _ x => x.by fun _ _ x => x.by fun _ _ x => x.by fun _ _ y => Then.next y) ha⟩)
theorem k_if {test : Expr} {body orelse : List Stmt} (h : WP M A (isTrue test env (eval test env)) (fun b s₂ => (b = true → WP M A (execs body env) (Then M A rest env Q E) E s₂) ∧ (b = false → WP M A (execs orelse env) (Then M A rest env Q E) E s₂)) E s) :
    WP M A (execs (.If test body orelse pos :: rest) env) Q E s := by
  refine k_cons ⟨?_⟩
  with_reducible refine wpAny_If (h.by fun b s' x => ?_)
  cases b
  · exact (x.2 rfl).out
  · exact (x.1 rfl).out
theorem k_pass (h : WP M A (execs rest env) Q E s) : WP M A (execs (.Pass pos :: rest) env) Q E s := k_cons (by with_reducible exact ⟨wpAny_Pass (Then.next h)⟩)
theorem k_brk (h : Q .brk s) : WP M A (execs (.Break pos :: rest) env) Q E s := k_cons (by with_reducible exact ⟨wpAny_Break (Then.brk h)⟩)
end

section
variable {M : Model} {A : Around} {E : Value → Shared → Prop} {s : Shared} {env : Env} {pos pos' : Pos} {Q : Value → Shared → Prop} {x : Str} {v : Value} {l r e body orelse test : Expr}
theorem e_bin {op : Operator} (h : WP M A (eval l env) (fun a s₁ => WP M A (eval r env) (fun b s₂ => WP M A (binaryOp op a b) Q E s₂) E s₁) E s) : WP M A (eval (.BinOp l op r pos) env) Q E s := by
  with_reducible exact ⟨wpAny_BinOp (h.by fun _ _ x => x.by fun _ _ x => x.out)⟩
theorem e_cmp {op : CmpOp} (h : WP M A (eval l env) (fun a s₁ => WP M A (eval r env) (fun b s₂ => WP M A (compareOp op a b) Q E s₂) E s₁) E s) (hm : behindInMarks op r = false) : WP M A (eval (.Compare l [op] [r] pos) env) Q E s := by
  with_reducible exact ⟨wpAny_Compare1 (h.by fun _ _ x => x.by fun _ _ x => x.out) hm⟩
theorem e_un {op : UnaryOp} (h : WP M A (eval e env) (fun a s₁ => WP M A (unaryOp op a) Q E s₁) E s) : WP M A (eval (.UnaryOp op e pos) env) Q E s := by
  with_reducible exact ⟨wpAny_UnaryOp (h.by fun _ _ x => x.out)⟩
theorem e_not (h : WP M A (truthy v) (fun b s' => Q (.bool (!b)) s') E s) : WP M A (unaryOp .Not v) Q E s := by
  with_reducible exact ⟨not_value h.out⟩
theorem e_ife (h : WP M A (isTrue test env (eval test env)) (fun b s₁ => (b = true → WP M A (eval body env) Q E s₁) ∧ (b = false → WP M A (eval orelse env) Q E s₁)) E s) : WP M A (eval (.IfExp test body orelse pos) env) Q E s := by
  constructor
  with_reducible refine wpAny_IfExp (h.by fun b s' x => ?_)
  cases b
  · exact (x.2 rfl).out
  · exact (x.1 rfl).out
theorem e_or (h : WP M A (eval l env) (fun v s₁ => WP M A (truthy v) (fun t s₂ => (t = true → Q v s₂) ∧ (t = false → WP M A (eval r env) Q E s₂)) E s₁) E s) : WP M A (eval (.BoolOp .Or [l, r] pos) env) Q E s := by
  constructor
  with_reducible refine wpAny_Or2 (h.by fun v s₁ x => x.by fun b s' x => ?_)
  cases b
  · exact (x.2 rfl).out
  · exact x.1 rfl
theorem e_none {k : Nat} (h : Q .none s) : WP M A (eval (.Constant .none k pos) env) Q E s := by with_reducible exact ⟨wpAny_Constant_none h⟩
theorem e_bool {k : Nat} {b : Bool} (h : Q (.bool b) s) : WP M A (eval (.Constant (.bool b) k pos) env) Q E s := by with_reducible exact ⟨wpAny_Constant_bool h⟩
theorem e_sub {value slice : Expr} (h : WP M A (eval value env) (fun o s₁ => WP M A (eval slice env) (fun i s₂ => WP M A (subscriptTail value slice o i) Q E s₂) E s₁) E s) : WP M A (eval (.Subscript value slice pos) env) Q E s := by
  with_reducible exact ⟨Subscript_ (h.by fun _ _ x => x.by fun _ _ x => x.out)⟩
theorem e_nil {Q : List Value → Shared → Prop} (h : Q [] s) : WP M A (spliced (backTo pos (starEach [] env))) Q E s := by with_reducible exact ⟨wpAny_items_nil h⟩
theorem e_cons {rest : List Expr} {Q : List Value → Shared → Prop} (h : WP M A (eval e env) (fun v s₁ => WP M A (spliced (backTo pos (starEach rest env))) (fun vs s₂ => Q (v :: vs) s₂) E s₁) E s)
    (he : starEach (e :: rest) env = (false, eval e env) :: starEach rest env := by rfl) : WP M A (spliced (backTo pos (starEach (e :: rest) env))) Q E s := by
  with_reducible exact ⟨wpAny_items_cons (h.by fun _ _ x => x.out) he⟩
theorem e_call {args : List Expr} (h : WP M A (eval (.Name x pos') env) (fun f s₁ => WP M A (callWith pos f [] (backTo pos (starEach args env)) []) Q E s₁) E s) : WP M A (eval (.Call (.Name x pos') args [] pos) env) Q E s := by
  with_reducible exact ⟨wpAny_Call_NameR (h.by fun _ _ x => x.out)⟩
theorem e_blt {id : String} {rest : List Expr} (h : WP M A (spliced (backTo pos (starEach (e :: rest) env))) (fun vs s₁ => WP M A (call (.builtin id) vs) Q E s₁) E s)
    (he : starEach (e :: rest) env = (false, eval e env) :: starEach rest env := by rfl) (hplain : (backTo pos (starEach rest env)).any (·.1) = false := by rfl) : WP M A (callWith pos (.builtin id) [] (backTo pos (starEach (e :: rest) env)) []) Q E s := by
  with_reducible exact ⟨PyProof.Rows.callWith_builtin1 (h.by fun _ _ x => x.out) he hplain⟩
theorem e_typ {T : String} {rest : List Expr} (h : WP M A (spliced (backTo pos (starEach (e :: rest) env))) (fun vs s₁ => WP M A (call (.type T) vs) Q E s₁) E s)
    (he : starEach (e :: rest) env = (false, eval e env) :: starEach rest env := by rfl) (hplain : (backTo pos (starEach rest env)).any (·.1) = false := by rfl) : WP M A (callWith pos (.type T) [] (backTo pos (starEach (e :: rest) env)) []) Q E s := by
  with_reducible exact ⟨PyProof.Rows.callWith_type1 (h.by fun _ _ x => x.out) he hplain⟩
/-- a call of a def of the text's -/
theorem e_own {K : Frag} {G : Heap} {f : Value} {rest : List Expr} (B : Base K G) (hk : keepIn K f = true)
    (h : WP M A (spliced (backTo pos (starEach (e :: rest) env))) (fun vs s₁ => (∃ (p : Par) (g : Heap) (ls : List Loc) (mu : List Own), p.G = G ∧ Cx p g s₁ ls mu) ∧ WP M A (call f vs) Q E s₁) E s)
    (he : starEach (e :: rest) env = (false, eval e env) :: starEach rest env := by rfl) (hplain : (backTo pos (starEach rest env)).any (·.1) = false := by rfl) :
    WP M A (callWith pos f [] (backTo pos (starEach (e :: rest) env)) []) Q E s := by
  constructor
  have h' : wpAny M A (spliced (backTo pos (starEach (e :: rest) env))) (fun vs s₁ => K.In s₁.heap ∧ wpAny M A (call f ([] ++ vs)) Q E s₁) E s :=
    h.by fun vs s₁ x => ⟨by obtain ⟨⟨p, g, ls, mu, rfl, C⟩, _⟩ := x; exact ((B.mono C.af.gg).mono C.gh).X, x.2.out⟩
  with_reducible exact callWith_K (h₀ := G) B.X hk h' he hplain
theorem t_cmp {op : CmpOp} {whole : Sem Value} {Q : Bool → Shared → Prop} (h : WP M A (eval l env) (fun a s₁ => WP M A (eval r env) (fun b s₂ => WP M A (compareOp op a b) (fun c s₃ => WP M A (truthy c) Q E s₃) E s₂) E s₁) E s) (hm : behindInMarks op r = false) :
    WP M A (isTrue (.Compare l [op] [r] pos) env whole) Q E s := by
  with_reducible exact ⟨wpAny_isTrue_Compare1 (h.by fun _ _ x => x.by fun _ _ x => x.by fun _ _ x => x.out) hm⟩
theorem t_not {whole : Sem Value} {Q : Bool → Shared → Prop} (h : WP M A (isTrue e env (eval e env)) (fun b s₁ => Q (!b) s₁) E s) : WP M A (isTrue (.UnaryOp .Not e pos) env whole) Q E s := by
  with_reducible exact ⟨wpAny_isTrue_Not h.out⟩
theorem t_val {whole : Sem Value} {Q : Bool → Shared → Prop} (h : WP M A whole (fun v s₁ => WP M A (truthy v) Q E s₁) E s) (he : isTrue e env whole = (do let v ← whole; standAt e.pos; holding [v] (truthy v))) : WP M A (isTrue e env whole) Q E s := by
  with_reducible exact ⟨wpAny_isTrue_value (h.by fun _ _ x => x.out) he⟩
theorem t_or {vs : List Expr} {whole : Sem Value} {Q : Bool → Shared → Prop} (h : WP M A (allTrue .Or vs env) Q E s) : WP M A (isTrue (.BoolOp .Or vs pos) env whole) Q E s := by with_reducible exact ⟨wpAny_isTrue_BoolOp h.out⟩
theorem t_and {vs : List Expr} {whole : Sem Value} {Q : Bool → Shared → Prop} (h : WP M A (allTrue .And vs env) Q E s) : WP M A (isTrue (.BoolOp .And vs pos) env whole) Q E s := by with_reducible exact ⟨wpAny_isTrue_BoolOp h.out⟩
theorem t_andn {Q : Bool → Shared → Prop} (h : Q true s) : WP M A (allTrue .And [] env) Q E s := by with_reducible exact ⟨wpAny_allTrue_And_nil h⟩
theorem t_orn {Q : Bool → Shared → Prop} (h : Q false s) : WP M A (allTrue .Or [] env) Q E s := by with_reducible exact ⟨wpAny_allTrue_Or_nil h⟩
theorem t_andc {rest : List Expr} {Q : Bool → Shared → Prop} (h : WP M A (isTrue e env (eval e env)) (fun b s₁ => (b = true → WP M A (allTrue .And rest env) Q E s₁) ∧ (b = false → Q false s₁)) E s) : WP M A (allTrue .And (e :: rest) env) Q E s := by
  constructor
  with_reducible refine wpAny_allTrue_And_cons (h.by fun b s₁ x => ?_)
  cases b
  · exact x.2 rfl
  · exact (x.1 rfl).out
theorem t_orc {rest : List Expr} {Q : Bool → Shared → Prop} (h : WP M A (isTrue e env (eval e env)) (fun b s₁ => (b = true → Q true s₁) ∧ (b = false → WP M A (allTrue .Or rest env) Q E s₁)) E s) : WP M A (allTrue .Or (e :: rest) env) Q E s := by
  constructor
  with_reducible refine wpAny_allTrue_Or_cons (h.by fun b s₁ x => ?_)
  cases b
  · exact (x.2 rfl).out
  · exact x.1 rfl
theorem tr_bool {b : Bool} {Q : Bool → Shared → Prop} (h : Q b s) : WP M A (truthy (.bool b)) Q E s := by with_reducible exact ⟨wpAny_truthy_bool h⟩
end
section
variable {prog : Program} {w : World} {A : Around} {E : Value → Shared → Prop} {s : Shared} {Q : Value → Shared → Prop} {a b : Int} {t u : Tok}
theorem c_lt (h : Q (.bool (decide (a < b))) s) : WP (model prog w) A (compareOp .Lt (.int a t) (.int b u)) Q E s := by with_reducible exact ⟨P.lt_int h⟩
theorem c_gt (h : Q (.bool (decide (a > b))) s) : WP (model prog w) A (compareOp .Gt (.int a t) (.int b u)) Q E s := by with_reducible exact ⟨P.gt_int h⟩
theorem c_eq (h : Q (.bool (a == b)) s) : WP (model prog w) A (compareOp .Eq (.int a t) (.int b u)) Q E s := by with_reducible exact ⟨P.eq_int h⟩
theorem c_ne (h : Q (.bool (a != b)) s) : WP (model prog w) A (compareOp .NotEq (.int a t) (.int b u)) Q E s := by with_reducible exact ⟨P.ne_int h⟩
theorem tr_int {Q : Bool → Shared → Prop} (h : Q (a != 0) s) : WP (model prog w) A (truthy (.int a t)) Q E s := by with_reducible exact ⟨P.truthy_int h⟩
end
theorem fits (n : Nat) (h : n ≤ 1000) : n ≤ sizeLine := Nat.le_trans h (by decide)
abbrev isPL (vs : List Value) : Obj → Prop := fun o => ∃ n, o = { cls := .type "list", data := .seq vs.toArray n }
abbrev isL (vs : List Value) : Obj → Prop := fun o => o.cls = .type "list" ∧ ∃ n, o.data = .seq vs.toArray n
abbrev isPT (vs : List Value) : Obj → Prop := fun o => ∃ n, o = { cls := .type "tuple", data := .seq vs.toArray n }
abbrev OAt (h : Heap) (a : Addr) (P : Obj → Prop) : Prop := ∃ o, h.get? a = some o ∧ P o
theorem OAt.mono {h h' : Heap} {a : Addr} {P : Obj → Prop} (x : OAt h a P) (k : h.StaysIn h') : OAt h' a P := by obtain ⟨o, e, q⟩ := x; exact ⟨o, k _ _ e, q⟩
theorem OAt.isList {h : Heap} {a : Addr} {vs : List Value} (x : OAt h a (isPL vs)) : h.IsList a vs.toArray := by obtain ⟨o, e, n, rfl⟩ := x; exact ⟨_, e, rfl, n, rfl⟩
theorem OAt.plain {h : Heap} {a : Addr} {vs : List Value} (x : OAt h a (isPL vs)) : h.PlainList a vs.toArray := by obtain ⟨o, e, n, rfl⟩ := x; exact ⟨n, e⟩
theorem OAt.plainL {h : Heap} {a : Addr} {vs : List Value} (x : OAt h a (isPL vs)) : PlainL h a vs.toArray := by obtain ⟨o, e, n, rfl⟩ := x; exact ⟨_, n, e, rfl, rfl, rfl⟩
theorem OAt.isTuple {h : Heap} {a : Addr} {vs : List Value} (x : OAt h a (isPT vs)) : h.IsTuple a vs.toArray := by obtain ⟨o, e, n, rfl⟩ := x; exact ⟨_, e, rfl, n, rfl⟩

section
variable {p : Par} {g g' : Heap} {s s' : Shared} {ls ls' : List Loc} {mu mu' : List Own} {a : Addr} {P P' : Obj → Prop}
theorem Cx.conv (C : Cx p g s ls ((a, P) :: mu)) (h : ∀ o, P o → P' o) : Cx p g s ls ((a, P') :: mu) :=
  ⟨C.af, C.ns, C.nL, C.hL, fun q hq => by
    rcases List.mem_cons.mp hq with rfl | hq
    · obtain ⟨⟨o, e, y⟩, r⟩ := C.own (a, P) (.head _); exact ⟨⟨o, e, h o y⟩, r⟩
    · exact C.own q (.tail _ hq), by have := List.pairwise_cons.mp C.nd; exact List.pairwise_cons.mpr ⟨this.1, this.2⟩⟩
/-- a fact of the frozen part, here -/
theorem Cx.of (C : Cx p g s ls mu) (x : OAt g a P) : OAt s.heap a P := x.mono C.gh
theorem Cx.my (C : Cx p g s ls mu) (h : (a, P) ∈ mu) : OAt s.heap a P := C.owns h
theorem Cx.pick (C : Cx p g s ls mu) (h : Pick (a, P) mu mu') : Cx p g s ls ((a, P) :: mu') := C.perm h.perm
end

section
variable {prog : Program} {w : World} {M : Model} {A : Around} {E : Value → Shared → Prop} {p : Par} {g : Heap} {s : Shared} {ls ls' : List Loc} {mu mu' : List Own} {env : Env} {ks : List (Str × NameKind)} {x y : Str} {pos pos' : Pos} {v : Value} {Q : Value → Shared → Prop} {a b : Int} {t u : Tok} {l : Addr} {vs : List Value} {k : Int} {value slice : Expr} {n : Nat}

theorem l_disp {elts : List Expr} (h : WP M A (spliced (backTo pos (starEach elts env))) (fun vs s₁ => vs.length ≤ 1000 ∧ Q (.ref s₁.heap.objs.size) { s₁ with heap := s₁.heap.push { cls := .type "list", data := .seq vs.toArray } }) E s) : WP M A (eval (.List elts pos) env) Q E s := by
  have e : (1000 : Nat) ≤ sizeLine := by decide
  with_reducible exact ⟨wpAny_List (h.by fun vs s₁ x => ⟨Nat.le_trans x.1 e, x.2⟩)⟩
theorem l_tup {elts : List Expr} {k : Nat} (h : WP M A (spliced (backTo pos (starEach elts env))) (fun vs s₁ => vs.length ≤ 1000 ∧ Q (.ref s₁.heap.objs.size) { s₁ with heap := s₁.heap.push { cls := .type "tuple", data := .seq vs.toArray } }) E s) : WP M A (eval (.Tuple elts k pos) env) Q E s := by
  have e : (1000 : Nat) ≤ sizeLine := by decide
  with_reducible exact ⟨wpAny_Tuple (h.by fun vs s₁ x => ⟨Nat.le_trans x.1 e, x.2⟩)⟩
/-- behind the items of a display: the list stands -/
theorem l_mk (C : Cx p g s ls mu) (hn : vs.length ≤ 1000) (h : ∀ s' u' a, Cx p g s' ls ((a, isPL vs) :: mu) → Q (.ref a) (tk s' u')) :
    vs.length ≤ 1000 ∧ Q (.ref s.heap.objs.size) { s with heap := s.heap.push { cls := .type "list", data := .seq vs.toArray } } := by
  have h := un2 h
  exact ⟨hn, h _ _ (C.alloc (t := s.toks) ⟨0, rfl⟩ rfl)⟩
theorem t_mk (C : Cx p g s ls mu) (hn : vs.length ≤ 1000) (h : ∀ s' u' a, Cx p g s' ls ((a, isPT vs) :: mu) → Q (.ref a) (tk s' u')) :
    vs.length ≤ 1000 ∧ Q (.ref s.heap.objs.size) { s with heap := s.heap.push { cls := .type "tuple", data := .seq vs.toArray } } := by
  have h := un2 h
  exact ⟨hn, h _ _ (C.alloc (t := s.toks) ⟨0, rfl⟩ rfl)⟩

theorem l_item (hL : s.heap.IsList l vs.toArray) (h0 : 0 ≤ k) (hk : k < 1000) (hx : vs[k.toNat]? = some v) (h : Q v s)
    (hs : subscripted slice false (.ref l) (.int k u) = operate [.ref l, .int k u] (getItem (.ref l) (.int k u)) := by with_unfolding_all rfl) :
    WP (model prog w) A (subscriptTail value slice (.ref l) (.int k u)) Q E s := by
  have h1 : k < 2 ^ 63 := by omega
  have h2 : vs.toArray[k.toNat]? = some v := by simpa using hx
  with_reducible exact ⟨tail_any hL.typeIs slot_list_getitem.lookup (wpAny_getItem_list hL h0 h1 h2 h) hs⟩
theorem l_itemneg (hL : s.heap.IsList l vs.toArray) (h0 : k < 0) (h1 : -(vs.length : Int) ≤ k) (hk : -1000 < k) (hx : vs[(k + vs.length).toNat]? = some v) (h : Q v s)
    (hs : subscripted slice false (.ref l) (.int k u) = operate [.ref l, .int k u] (getItem (.ref l) (.int k u)) := by with_unfolding_all rfl) :
    WP (model prog w) A (subscriptTail value slice (.ref l) (.int k u)) Q E s := by
  have h2 : -(2 ^ 63 : Int) ≤ k := by omega
  have h3 : -(vs.toArray.size : Int) ≤ k := by simpa using h1
  have h4 : vs.toArray[(k + vs.toArray.size).toNat]? = some v := by simpa using hx
  with_reducible exact ⟨tail_any hL.typeIs slot_list_getitem.lookup (wpAny_getItem_list_neg hL h0 h3 h2 h4 h) hs⟩
theorem tup_item (hT : OAt s.heap l (isPT vs)) (h0 : 0 ≤ k) (hk : k < 1000) (hx : vs[k.toNat]? = some v) (h : Q v s)
    (hs : subscripted slice false (.ref l) (.int k u) = operate [.ref l, .int k u] (getItem (.ref l) (.int k u)) := by with_unfolding_all rfl) :
    WP (model prog w) A (subscriptTail value slice (.ref l) (.int k u)) Q E s := by
  obtain ⟨o, e, n, rfl⟩ := hT
  have hT : IsTup s.heap l vs.toArray := ⟨_, e, rfl, n, rfl⟩
  have h1 : k < 2 ^ 63 := by omega
  have h3 : -(2 ^ 63 : Int) ≤ k := by omega
  have hlen : k.toNat < vs.length := by
    rcases Nat.lt_or_ge k.toNat vs.length with q | q
    · exact q
    · rw [List.getElem?_eq_none q] at hx; cases hx
  have h4 : seqIndex? k vs.length = some k.toNat := by
    unfold seqIndex?
    simp; omega
  exact ⟨item_tupleT hT h3 h1 h4 hx h hs⟩
theorem s_item {c n : Nat} (h0 : 0 ≤ k) (hk : k < 1000) (hx : x.cps[k.toNat]? = some c) (h : Q (.str ⟨#[c]⟩ n) (tk s (n + 1)))
    (hs : subscripted slice false (.str x t) (.int k u) = operate [.str x t, .int k u] (getItem (.str x t) (.int k u)) := by with_unfolding_all rfl) :
    WP (model prog w) A (subscriptTail value slice (.str x t) (.int k u)) Q E (tk s n) := by
  have h1 : (decide (k < -(2 ^ 63 : Int)) || decide (k ≥ 2 ^ 63)) = false := by
    rw [decide_eq_false (by omega), decide_eq_false (by omega)]; rfl
  have hlen : k.toNat < x.cps.size := by
    rcases Nat.lt_or_ge k.toNat x.cps.size with q | q
    · exact q
    · rw [Array.getElem?_eq_none q] at hx; cases hx
  have h4 : seqIndex? k x.length = some k.toNat := by
    unfold seqIndex? Str.length
    simp; omega
  have h5 : (seqIndex? k x.length).bind (x.cps[·]?) = some c := by rw [h4]; exact hx
  with_reducible exact ⟨tail_any (typeIs_str _ x t) F.slot_str_getitem.lookup (P.getItem_str h1 h5 h) hs⟩
theorem l_set (C : Cx p g s ls mu) (hp : Pick (l, isL vs) mu mu') (h0 : 0 ≤ k) (hk : k < vs.length) (hk2 : k < 1000) {Q : Unit → Shared → Prop} (h : ∀ s' u', Cx p g s' ls ((l, isL (vs.set k.toNat v)) :: mu') → Q () (tk s' u')) :
    WP (model prog w) A (setItem (.ref l) (.int k u) v) Q E s := by
  have h := un1 h
  have C' := C.pick hp
  have hL : s.heap.IsList l vs.toArray := C'.at
  have h1 : k < 2 ^ 63 := by omega
  have h2 : k < vs.toArray.size := by simpa using hk
  constructor
  with_reducible refine wpAny_setItem_list hL h0 h1 h2 fun h' hl' hs' => h _ ?_
  obtain ⟨o, e, q, n, d⟩ := hl'
  refine C'.turn hs'.extBut e ⟨q, n, ?_⟩
  rw [d]; simp
theorem l_len {n : Nat} (hL : s.heap.IsList l vs.toArray) (hn : vs.length ≤ 100000) (h : Q (.int vs.length (n + 1)) (tk s (n + 1 + 1))) : WP (model prog w) A (call (.builtin "len") [.ref l]) Q E (tk s n) := by
  have h1 : (vs.toArray.size : Int) < 2 ^ 63 := by simp; omega
  have e : (vs.toArray.size : Int) = vs.length := by simp
  rw [← e] at h
  exact ⟨call_len_list (s := tk s n) hL h1 h⟩
theorem b_min2 (hA : A.handled = none) (C : Cx p g s ls mu) (h : ∀ s' u' t, Cx p g s' ls mu → Q (.int (min a b) t) (tk s' u')) : WP (model prog w) A (call (.builtin "min") [.int a t, .int b u]) Q E s := by
  have h := un2 (R := fun _ s' => Cx p g s' ls mu) h
  constructor
  with_reducible refine min_two_ints hA fun h' tk hk => ?_
  have C' : Cx p g { s with heap := h', toks := tk } ls mu := C.grow rfl rfl rfl hk
  split
  · have := h _ u C'; rwa [show min a b = b by omega] at this
  · have := h _ t C'; rwa [show min a b = a by omega] at this
theorem b_max2 (hA : A.handled = none) (C : Cx p g s ls mu) (h : ∀ s' u' t, Cx p g s' ls mu → Q (.int (max a b) t) (tk s' u')) : WP (model prog w) A (call (.builtin "max") [.int a t, .int b u]) Q E s := by
  have h := un2 (R := fun _ s' => Cx p g s' ls mu) h
  constructor
  with_reducible refine max_two_ints hA fun h' tk hk => ?_
  have C' : Cx p g { s with heap := h', toks := tk } ls mu := C.grow rfl rfl rfl hk
  split
  · have := h _ u C'; rwa [show max a b = b by omega] at this
  · have := h _ t C'; rwa [show max a b = a by omega] at this
theorem x_mulstr (hx : x.length = 1) (h0 : 0 ≤ k) (h1 : k ≤ 1) (h : ∀ t n', Q (.str (if k = 1 then x else Str.empty) t) (tk s n')) : WP (model prog w) A (binaryOp .Mult (.str x t) (.int k u)) Q E (tk s n) := by
  constructor
  have hr : (decide (k < -(2 ^ 63 : Int)) || decide (k ≥ 2 ^ 63)) = false := by rw [decide_eq_false (by omega), decide_eq_false (by omega)]; rfl
  have e1 : ¬ k < 1 → (k == 1 || x.length == 0) = true := fun q => by
    have : k = 1 := by omega
    subst this; rfl
  refine P.mul_str hr (fun q e => by rw [e1 q] at e; cases e) (fun q e => by rw [e1 q] at e; cases e) ?_
  by_cases q : k < 1
  · rw [if_pos q]
    have := h n (n + 1)
    rw [if_neg (by omega)] at this
    exact ⟨by decide, this⟩
  · rw [if_neg q, if_pos (e1 q)]
    have := h t n
    rw [if_pos (by omega)] at this
    exact this
end
/-- what an iterator at `it` hands on: n values, the i-th as V tells; P i: its own object before the i-th -/
structure Src (prog : Program) (w : World) (A : Around) (g : Heap) (it : Addr) (n : Nat) (P : Nat → Obj → Prop) (V : Nat → Value → Prop) : Prop where
  next : ∀ (p : Par) (i : Nat) (g' : Heap) (s : Shared) (ls : List Loc) (mu : List Own) (Q : Option Value → Shared → Prop) (E : Value → Shared → Prop), i < n → g.StaysIn g' → Cx p g' s ls ((it, P i) :: mu) →
    (∀ v s', V i v → Cx p g' s' ls ((it, P (i + 1)) :: mu) → Q (some v) s') → WP (model prog w) A (pyNext (.ref it)) Q E s
  done : ∀ (p : Par) (g' : Heap) (s : Shared) (ls : List Loc) (mu : List Own) (Q : Option Value → Shared → Prop) (E : Value → Shared → Prop), g.StaysIn g' → Cx p g' s ls ((it, P n) :: mu) →
    (∀ s', Cx p g' s' ls mu → Q none s') → WP (model prog w) A (pyNext (.ref it)) Q E s
  self : ∀ (p : Par) (i : Nat) (g' : Heap) (s : Shared) (ls : List Loc) (mu : List Own) (Q : Value → Shared → Prop) (E : Value → Shared → Prop), g.StaysIn g' → Cx p g' s ls ((it, P i) :: mu) → Q (.ref it) s → WP (model prog w) A (pyIter (.ref it)) Q E s

section
variable {p : Par} {g : Heap} {s : Shared} {ls : List Loc} {mu : List Own} {a : Addr} {P : Obj → Prop}
/-- an own object gone (its object may be anything now) -/
theorem Cx.gone (C : Cx p g s ls ((a, P) :: mu)) {h' : Heap} {t : Nat} (hs : Heap.ExtBut a s.heap h') : Cx p g { s with heap := h', toks := t } ls mu := by
  obtain ⟨_, h2, h3, h4⟩ := C.own (a, P) (.head _)
  have nd := List.pairwise_cons.mp C.nd
  obtain ⟨m, ⟨oL, es, ep, hoL, r⟩, hm⟩ := C.ns
  refine ⟨⟨C.af.gens, C.af.drawn, C.af.os, C.af.gg, fun b o e => hs b o (fun q => ?_) (C.gh b o e), fun b o e => hs b o (fun q => ?_) (C.af.hh b o e), C.af.sep⟩,
    ⟨m, ⟨oL, es, ep, hs _ _ (Ne.symm h4) hoL, r⟩, hm⟩, C.nL, C.hL, fun q hq => ?_, nd.2⟩
  · rw [q, h2] at e; cases e
  · rw [q, h3] at e; cases e
  · obtain ⟨⟨o, k1, k5⟩, k2, k3, k4⟩ := C.own q (.tail _ hq)
    exact ⟨⟨o, hs _ _ (Ne.symm (nd.1 q hq)) k1, k5⟩, k2, k3, k4⟩
end

abbrev isLI (l : Addr) (i : Nat) : Obj → Prop := fun o => o.cls = .type "list_iterator" ∧ o.data = .fields #[.ref l, .int i 0]
abbrev isRI (a n : Int) (i : Nat) : Obj → Prop := fun o => o = { cls := .type "range_iterator", dict := none, data := .fields #[rawInt (a + i), rawInt (n - i), rawInt 1], slots := #[] }
section
variable {prog : Program} {w : World} {A : Around} {E : Value → Shared → Prop} {p : Par} {g : Heap} {s : Shared} {ls : List Loc} {mu : List Own} {l it : Addr} {vs : List Value}

theorem Src.list (hA : A.handled = none) (hL : g.IsList l vs.toArray) : Src prog w A g it vs.length (isLI l) (fun i v => vs[i]? = some v) where
  next := fun _ i g' s ls mu Q E hi hg C h => by
    have h1 : s.heap.IsListIter it l i := C.at
    have h2 : s.heap.IsList l vs.toArray := hL.at fun o e => C.gh _ _ (hg _ _ e)
    have h3 : vs.toArray[i]? = some vs[i] := by simp [hi]
    constructor
    with_reducible refine wpAny_pyNext_list_item h1 h2 h3 fun h' hi' hs' => h _ _ (List.getElem?_eq_getElem hi) ?_
    obtain ⟨o', e', q⟩ := hi'
    exact C.turn (t := s.toks) hs'.extBut e' q
  done := fun _ g' s ls mu Q E hg C h => by
    have h1 : s.heap.IsListIter it l vs.length := C.at
    have h2 : s.heap.IsList l vs.toArray := hL.at fun o e => C.gh _ _ (hg _ _ e)
    have h3 : vs.toArray[vs.length]? = none := by simp
    constructor
    with_reducible exact wpAny_pyNext_list_end hA h1 h2 h3 fun h' he' => h _ (C.gone (t := s.toks) he')
  self := fun _ i g' s ls mu Q E hg C h => by
    have h1 : s.heap.IsListIter it l i := C.at
    constructor
    with_reducible exact wpAny_pyIter_listiter h1 h
theorem it_list (C : Cx p g s ls mu) (hL : s.heap.IsList l vs.toArray) {Q : Value → Shared → Prop} (h : ∀ it s' u', Cx p g s' ls ((it, isLI l 0) :: mu) → Q (.ref it) (tk s' u')) : WP (model prog w) A (pyIter (.ref l)) Q E s := by
  have h := un3 h
  constructor
  have C' : Cx p g { s with heap := s.heap.push { cls := .type "list_iterator", data := .fields #[.ref l, .int 0 0] } } ls ((s.heap.objs.size, isLI l 0) :: mu) := C.alloc (t := s.toks) ⟨rfl, rfl⟩ rfl
  with_reducible exact wpAny_pyIter_list hL (h _ _ C')

theorem Src.range (hA : A.handled = none) (a : Int) (n : Nat) : Src prog w A g it n (isRI a n) (fun i v => ∃ t, v = .int (a + i) t) where
  next := fun _ i g' s ls mu Q E hi hg C h => by
    obtain ⟨o, e, rfl⟩ := C.at
    have h1 : IsRangeIter s.heap it (a + i) (n - i) 1 := e
    have h2 : (0 : Int) < n - i := by omega
    constructor
    with_reducible refine wpAny_pyNext_range_item h1 h2 fun h' hi' hs' => h _ _ ⟨_, rfl⟩ ?_
    refine C.turn (t := s.toks + 1) hs'.extBut hi' ?_
    show _ = _
    rw [show a + (i : Int) + 1 = a + ((i + 1 : Nat) : Int) by omega, show (n : Int) - (i : Int) - 1 = n - ((i + 1 : Nat) : Int) by omega]
  done := fun _ g' s ls mu Q E hg C h => by
    obtain ⟨o, e, rfl⟩ := C.at
    have h1 : IsRangeIter s.heap it (a + (n : Nat)) ((n : Int) - (n : Nat)) 1 := e
    have h2 : (n : Int) - (n : Nat) ≤ 0 := by omega
    constructor
    with_reducible exact wpAny_pyNext_range_end hA h1 h2 fun h' he' => h _ (C.gone (t := s.toks) he')
  self := fun _ i g' s ls mu Q E hg C h => by
    obtain ⟨o, e, rfl⟩ := C.at
    have h1 : IsRangeIter s.heap it (a + i) (n - i) 1 := e
    constructor
    with_reducible exact wpAny_pyIter_rangeiter h1 h
/-- range(n), made -/
abbrev isRg (n : Int) : Obj → Prop := fun o => ∃ t u v, o = { cls := .type "range", data := .fields #[.int 0 t, .int n u, .int 1 v] }
theorem c_range {n : Int} {t : Tok} (C : Cx p g s ls mu) {Q : Value → Shared → Prop} (h : ∀ s' u' r, Cx p g s' ls ((r, isRg n) :: mu) → Q (.ref r) (tk s' u')) : WP (model prog w) A (call (.type "range") [.int n t]) Q E s := by
  have h := un2 h
  constructor
  with_reducible refine call_range_1 (h _ _ ?_)
  exact C.alloc (t := s.toks + 1 + 1) ⟨_, _, _, rfl⟩ rfl
theorem it_range {n : Nat} {r : Addr} (C : Cx p g s ls ((r, isRg n) :: mu)) (hn : n < 1000000) {Q : Value → Shared → Prop} (h : ∀ it s' u', Cx p g s' ls ((it, isRI 0 n 0) :: mu) → Q (.ref it) (tk s' u')) : WP (model prog w) A (pyIter (.ref r)) Q E s := by
  have h := un3 h
  obtain ⟨o, e, t, u, v, rfl⟩ := C.at
  constructor
  have h1 : IsRange s.heap r 0 n 1 t u v := e
  have h2 : Builtin.Range.small 0 n 1 = true := small_one (by decide) (by decide) (by omega) (by omega)
  with_reducible refine wpAny_pyIter_range h1 h2 (h _ _ ?_)
  refine C.drop.alloc (t := s.toks) ?_ rfl
  show _ = _
  rw [rangeSize_one]
  have e1 : (if (0 : Int) < n then (n : Int) - 0 else 0) = (n : Int) - (0 : Nat) := by split <;> omega
  rw [e1]; rfl
end

structure CP (M : Model) (A : Around) (c : Code) (R : Result → Shared → Prop) (s : Shared) : Prop where
  out : codeAny M A c R s
def LoopR (M : Model) (A : Around) (env : Env) (Q : Flow → Shared → Prop) (E : Value → Shared → Prop) (r : Result) (s : Shared) : Prop := match r with
  | .ok f => Q f s
  | .error e => cameBackBy M A env E e s
/-- the end of a turn -/
def Turned (p : Par) (g : Heap) (J : Nat → Heap → List Loc → List Own → Prop) (it : Addr) (P : Nat → Obj → Prop) (i : Nat) (Q : Flow → Shared → Prop) (Qb : Shared → Prop) (f : Flow) (s : Shared) : Prop := match f with
  | .next | .cont => ∃ g' ls mu, g.StaysIn g' ∧ Cx p g' s ls ((it, P (i + 1)) :: mu) ∧ J (i + 1) g' ls mu
  | .brk => Qb s
  | .ret v => Q (.ret v) s
section
variable {prog : Program} {w : World} {A : Around} {E : Value → Shared → Prop} {p : Par} {g g' : Heap} {s : Shared} {ls : List Loc} {mu mu' : List Own} {it : Addr} {J : Nat → Heap → List Loc → List Own → Prop} {P : Nat → Obj → Prop} {V : Nat → Value → Prop} {i n : Nat}
  {Q : Flow → Shared → Prop} {Qb : Shared → Prop} {env : Env} {target : Expr} {body orelse rest : List Stmt} {pos : Pos} {v : Value}
theorem Turned.next {ls' : List Loc} (hg : g.StaysIn g') (C : Cx p g' s ls mu) (hp : Pick (it, P (i + 1)) mu mu') (hl : ∀ q ∈ ls', q ∈ ls) (hJ : J (i + 1) g' ls' mu') : Turned p g J it P i Q Qb .next s :=
  ⟨g', ls', mu', hg, (C.pick hp).less hl, hJ⟩
theorem Turned.cont {ls' : List Loc} (hg : g.StaysIn g') (C : Cx p g' s ls mu) (hp : Pick (it, P (i + 1)) mu mu') (hl : ∀ q ∈ ls', q ∈ ls) (hJ : J (i + 1) g' ls' mu') : Turned p g J it P i Q Qb .cont s :=
  ⟨g', ls', mu', hg, (C.pick hp).less hl, hJ⟩
theorem Turned.ret (h : Q (.ret v) s) : Turned p g J it P i Q Qb (.ret v) s := h
theorem Turned.brk (h : Qb s) : Turned p g J it P i Q Qb .brk s := h

theorem for_loop (S : Src prog w A g it n P V) (C : Cx p g s ls ((it, P 0) :: mu)) (h0 : J 0 g ls mu)
    (ht : ∀ v s' Q E, WP (model prog w) A (assign target env v) Q E s' → (∃ i g ls mu, Cx p g s' ls ((it, P i) :: mu)) → WP (model prog w) A (letOwnedTupleGo target (.ref it) v) (fun _ s'' => WP (model prog w) A (assign target env v) Q E s'') E s')
    (turn : ∀ i v g' s' ls' mu' E, i < n → V i v → g.StaysIn g' → J i g' ls' mu' → Cx p g' s' ls' ((it, P (i + 1)) :: mu') →
      WP (model prog w) A (assign target env v) (fun _ s₂ => WP (model prog w) A (execs body env) (Turned p g' J it P i Q (fun s => Q .next s)) E s₂) E s')
    (fin : ∀ g' s' ls' mu' E, g.StaysIn g' → J n g' ls' mu' → Cx p g' s' ls' mu' → WP (model prog w) A (execs orelse env) Q E s') :
    CP (model prog w) A (.forLoop target (.ref it) body orelse env) (LoopR (model prog w) A env Q E) s := by
  constructor
  refine codeAny_forLoop_any (fun k s => ∃ i g' ls mu, k = n + 1 - i ∧ i ≤ n ∧ g.StaysIn g' ∧ Cx p g' s ls ((it, P i) :: mu) ∧ J i g' ls mu) ?_ (n + 1) ⟨0, g, ls, mu, rfl, Nat.zero_le _, stays_refl g, C, h0⟩
  rintro k s' ⟨i, g', ls', mu', rfl, hi, hg, C', hJ⟩
  by_cases hlt : i < n
  · refine (S.next p i g' s' ls' mu' _ _ hlt hg C' fun v s₁ hv C₁ => ?_).out
    have W := turn i v g' s₁ ls' mu' (notedBy (model prog w) A env fun e s' => cameBackBy (model prog w) A env E e s') hlt hv hg hJ C₁
    refine (ht v s₁ _ _ W ⟨i + 1, g', ls', mu', C₁⟩).by fun _ s₂ h₂ => h₂.by fun _ s₃ h₃ => h₃.by fun f s₄ h₄ => ?_
    cases f with
    | next => obtain ⟨g₂, ls₂, mu₂, a, b, c⟩ := h₄; exact ⟨n + 1 - (i + 1), by omega, i + 1, g₂, ls₂, mu₂, rfl, hlt, stays_trans hg a, b, c⟩
    | cont => obtain ⟨g₂, ls₂, mu₂, a, b, c⟩ := h₄; exact ⟨n + 1 - (i + 1), by omega, i + 1, g₂, ls₂, mu₂, rfl, hlt, stays_trans hg a, b, c⟩
    | brk => exact h₄
    | ret v => exact h₄
  · have e : i = n := by omega
    subst e
    exact (S.done p g' s' ls' mu' _ _ hg C' fun s₁ C₁ => (fin g' s₁ ls' mu' _ hg hJ C₁).out).out
theorem k_for {iter : Expr} (h : WP (model prog w) A (eval iter env) (fun x s₁ => WP (model prog w) A (pyIter x) (fun it s₂ => CP (model prog w) A (.forLoop target it body orelse env) (LoopR (model prog w) A env (Then (model prog w) A rest env Q E) E) s₂) E s₁) E s)
    (hs : ∀ x, foldedSetIterable iter env x = pure x) : WP (model prog w) A (execs (.For target iter body orelse pos :: rest) env) Q E s :=
  k_cons (by
    constructor
    with_reducible refine wpAny_For (h.by fun _ _ x => x.by fun _ _ y => codeAny_mono y.out (fun r s' z => ?_)) hs
    cases r <;> exact z)
theorem ht_name {x : Str} {pos : Pos} : ∀ v s' Q E, WP (model prog w) A (assign (.Name x pos) env v) Q E s' → (∃ i g ls mu, Cx p g s' ls ((it, P i) :: mu)) → WP (model prog w) A (letOwnedTupleGo (.Name x pos) (.ref it) v) (fun _ s'' => WP (model prog w) A (assign (.Name x pos) env v) Q E s'') E s' :=
  fun _ _ _ _ h _ => ⟨wpAny_of_eq rfl h⟩
theorem a_name {x : Str} {pos : Pos} {Q : Unit → Shared → Prop} (h : WP (model prog w) A (storeName env x v) Q E s) : WP (model prog w) A (assign (.Name x pos) env v) Q E s := by
  with_reducible exact ⟨wpAny_assign_Name h.out⟩
end
section
variable {prog : Program} {w : World} {T : Type} [DecidableEq T]
abbrev isDk (knd : KeyKind prog w T) (kvs : List (T × Value)) : Obj → Prop := fun o => ∃ es ep, o.ExactDict ∧ o.data = .dict es ep ∧ KeysOf knd es ∧ Pairs knd es.toList kvs ∧ (kvs.map (·.1)).Nodup
variable {knd : KeyKind prog w T} {kvs : List (T × Value)} {h : Heap} {d : Addr}
theorem OAt.dict (x : OAt h d (isDk knd kvs)) : h.DictOf knd d kvs := by obtain ⟨o, e, es, ep, r⟩ := x; exact ⟨o, es, ep, e, r⟩
theorem dict_oat (x : h.DictOf knd d kvs) : OAt h d (isDk knd kvs) := by obtain ⟨o, es, ep, e, r⟩ := x; exact ⟨o, e, es, ep, r⟩
end
abbrev isII (d : Addr) (n ep i : Nat) : Obj → Prop := fun o => ∃ ok ov, o = { cls := .type "dict_itemiterator", dict := none, data := .fields #[.none, .bool false, .ref d, .int i 0, .int n 0, .int ep 0, ok, ov], slots := #[] }
abbrev isVI (d : Addr) (n ep i : Nat) : Obj → Prop := fun o => o.cls = .type "dict_valueiterator" ∧ o.data = .fields #[.ref d, .int i 0, .int n 0, .int ep 0]
theorem base_size {K : Frag} {G : Heap} (B : Base K G) : sysModules < G.objs.size := by
  obtain ⟨p, l, mg, mb, T⟩ := B.top
  have := T.g.lt
  exact Nat.lt_trans (by decide) this
section
variable {prog : Program} {w : World} {K : Frag} {A : Around} {E : Value → Shared → Prop} {p : Par} {g g' : Heap} {s : Shared} {ls ls' : List Loc} {mu mu' : List Own} {env : Env} {ks : List (Str × NameKind)} {pos pos' apos : Pos} {v : Value} {Q : Value → Shared → Prop}
  {T : Type} [DecidableEq T] {knd : KeyKind prog w T} {kvs : List (T × Value)} {d it : Addr} {k : T} {key : Value} {n ep : Nat}

theorem d_new (B : Base K p.G) (C : Cx p g s ls mu) (knd : KeyKind prog w T) (h : ∀ s' u' d, (d == sysModules) = false → Cx p g s' ls ((d, isDk knd []) :: mu) → Q (.ref d) (tk s' u')) : WP (model prog w) A (eval (.Dict [] [] pos) env) Q E s := by
  constructor
  have hs := base_size ((B.mono C.af.gg).mono C.gh)
  refine wpAny_Dict_empty (h { s with heap := s.heap.push { cls := .type "dict", data := .dict #[] } } s.toks _ (beq_eq_false_iff_ne.mpr (Nat.ne_of_gt hs)) ?_)
  exact C.alloc (t := s.toks) ⟨#[], 0, ⟨rfl, rfl, rfl⟩, rfl, (fun _ he => by simp at he), Pairs.nil, List.nodup_nil⟩ rfl
theorem d_get {r : Nat} (hD : s.heap.DictOf knd d kvs) (hkey : knd.is k key = true) (hv : valueAt kvs k = some v) (h : ∀ m, Q v (tk s m)) : WP (model prog w) A (getItem (.ref d) key) Q E (tk s r) := by
  with_reducible exact ⟨wpAny_getItem_of hkey (show (tk s r).heap.DictOf knd d kvs from hD).mapOf hv (h _)⟩
theorem d_item {r : Nat} {value slice : Expr} (hD : s.heap.DictOf knd d kvs) (hkey : knd.is k key = true) (hv : valueAt kvs k = some v) (h : ∀ m, Q v (tk s m))
    (hs : subscripted slice false (.ref d) key = operate [.ref d, key] (getItem (.ref d) key)) : WP (model prog w) A (subscriptTail value slice (.ref d) key) Q E (tk s r) := by
  with_reducible exact ⟨tail_any (show (tk s r).heap.DictOf knd d kvs from hD).mapOf.typeIs slot_dict_getitem.lookup (d_get hD hkey hv h).out hs⟩
theorem d_set (C : Cx p g s ls mu) (hp : Pick (d, isDk knd kvs) mu mu') (hkey : knd.is k key = true) (hn : kvs.length ≤ 1000) {Q : Unit → Shared → Prop} (h : ∀ s' u', Cx p g s' ls ((d, isDk knd (stored kvs k v)) :: mu') → Q () (tk s' u')) :
    WP (model prog w) A (setItem (.ref d) key v) Q E s := by
  have h := un1 h
  have C' := C.pick hp
  have hD : s.heap.DictOf knd d kvs := OAt.dict C'.at
  have hz : kvs.length ≤ sizeLine := Nat.le_trans hn (by decide)
  constructor
  refine wpAny_setItem_pairs (hsz := hz) hkey hD fun h' hd' hs' => h _ ?_
  obtain ⟨o, e, q⟩ := dict_oat hd'
  exact C'.turn hs'.extBut e q
theorem d_in {r : Nat} (hD : s.heap.DictOf knd d kvs) (hd : (d == sysModules) = false) (hkey : knd.is k key = true) (h : ∀ m, Q (.bool (valueAt kvs k).isSome) (tk s m)) : WP (model prog w) A (compareOp .In key (.ref d)) Q E (tk s r) := by
  with_reducible exact ⟨wpAny_in_of hkey hd (show (tk s r).heap.DictOf knd d kvs from hD).mapOf (h _)⟩

/-- d.items(), d.values() of a name -/
theorem m_items {o : Expr} (h : WP (model prog w) A (eval o env) (fun ov s₁ => ∃ (p : Par) (d : Addr) (kvs : List (T × Value)) (g : Heap) (ls : List Loc) (mu : List Own), ov = .ref d ∧ (d == sysModules) = false ∧ Cx p g s₁ ls mu ∧ s₁.heap.DictOf knd d kvs ∧
      ∀ s' u' v, Cx p g s' ls ((v, (fun o => o.cls = .type "dict_items" ∧ o.data = .fields #[.ref d])) :: mu) → Q (.ref v) (tk s' u')) E s)
    (hbase : attributeBase o "items" env (eval o env) = eval o env) (hline : (apos.endLine == pos.line) = true) : WP (model prog w) A (eval (.Call (.Attribute o "items" apos) [] [] pos) env) Q E s := by
  constructor
  refine @wpAny_Call_method _ _ _ _ _ _ _ _ _ _ _ "dict" "dict.items" _ hbase rfl hline F.plainAttrs_dict F.slot_dict_items F.type_dict_items (h.by fun ov s₁ x => ?_)
  obtain ⟨p, d, kvs, g, ls, mu, rfl, hd, C, hD, hQ⟩ := x
  refine ⟨hD.mapOf.typeIs, hD.mapOf.noDict, ?_⟩
  show wpAny _ _ (callWith pos (.builtin "dict.items") [.ref d] [] []) Q E s₁
  refine method_meetsIn F.slot_dict_items F.entry_dict_items rfl (PySem.evalArgs_none ⟨rfl, hD.mapOf.typeIs, F.args_dict_items_1 _, _, meets_dict_items knd d hd, ⟨kvs, hD⟩, ?_⟩)
  exact un2 hQ _ _ (C.alloc (t := s₁.toks) ⟨rfl, rfl⟩ rfl)
theorem m_values {o : Expr} (h : WP (model prog w) A (eval o env) (fun ov s₁ => ∃ (p : Par) (d : Addr) (kvs : List (T × Value)) (g : Heap) (ls : List Loc) (mu : List Own), ov = .ref d ∧ (d == sysModules) = false ∧ Cx p g s₁ ls mu ∧ s₁.heap.DictOf knd d kvs ∧
      ∀ s' u' v, Cx p g s' ls ((v, (fun o => o.cls = .type "dict_values" ∧ o.data = .fields #[.ref d])) :: mu) → Q (.ref v) (tk s' u')) E s)
    (hbase : attributeBase o "values" env (eval o env) = eval o env) (hline : (apos.endLine == pos.line) = true) : WP (model prog w) A (eval (.Call (.Attribute o "values" apos) [] [] pos) env) Q E s := by
  constructor
  refine @wpAny_Call_method _ _ _ _ _ _ _ _ _ _ _ "dict" "dict.values" _ hbase rfl hline F.plainAttrs_dict F.slot_dict_values F.type_dict_values (h.by fun ov s₁ x => ?_)
  obtain ⟨p, d, kvs, g, ls, mu, rfl, hd, C, hD, hQ⟩ := x
  refine ⟨hD.mapOf.typeIs, hD.mapOf.noDict, ?_⟩
  show wpAny _ _ (callWith pos (.builtin "dict.values") [.ref d] [] []) Q E s₁
  refine method_meetsIn F.slot_dict_values F.entry_dict_values rfl (PySem.evalArgs_none ⟨rfl, hD.mapOf.typeIs, F.args_dict_values_1 _, _, meets_dict_values knd d hd, ⟨kvs, hD⟩, ?_⟩)
  exact un2 hQ _ _ (C.alloc (t := s₁.toks) ⟨rfl, rfl⟩ rfl)
theorem it_items {vw : Addr} (C : Cx p g s ls ((vw, (fun o => o.cls = .type "dict_items" ∧ o.data = .fields #[.ref d])) :: mu)) (hD : s.heap.DictAt knd d kvs ep) (h : ∀ s' u' it, Cx p g s' ls ((it, isII d kvs.length ep 0) :: mu) → Q (.ref it) (tk s' u')) :
    WP (model prog w) A (pyIter (.ref vw)) Q E s := by
  have h := un2 h
  have hv : s.heap.IsItemsView vw d := C.at
  constructor
  with_reducible refine wpAny_pyIter_items hv hD (h _ _ ?_)
  exact C.drop.alloc (t := s.toks) ⟨_, _, rfl⟩ rfl
theorem it_values {vw : Addr} (C : Cx p g s ls ((vw, (fun o => o.cls = .type "dict_values" ∧ o.data = .fields #[.ref d])) :: mu)) (hD : s.heap.DictAt knd d kvs ep) (h : ∀ s' u' it, Cx p g s' ls ((it, isVI d kvs.length ep 0) :: mu) → Q (.ref it) (tk s' u')) :
    WP (model prog w) A (pyIter (.ref vw)) Q E s := by
  have h := un2 h
  have hv : s.heap.IsValuesView vw d := C.at
  constructor
  with_reducible refine wpAny_pyIter_values hv hD (h _ _ ?_)
  exact C.drop.alloc (t := s.toks) ⟨rfl, rfl⟩ rfl
theorem Src.values (hA : A.handled = none) (hD : g.DictAt knd d kvs ep) : Src prog w A g it kvs.length (isVI d kvs.length ep) (fun i v => ∃ k, kvs[i]? = some (k, v)) where
  next := fun _ i g' s ls mu Q E hi hg C h => by
    have h1 : s.heap.IsValIter it d i kvs.length ep := C.at
    have h2 : s.heap.DictAt knd d kvs ep := hD.at fun o e => C.gh _ _ (hg _ _ e)
    have h3 : kvs[i]? = some (kvs[i].1, kvs[i].2) := by simp [hi]
    constructor
    with_reducible refine wpAny_pyNext_values_item h1 h2 h3 fun h' hi' hs' => h _ _ ⟨_, h3⟩ ?_
    obtain ⟨o', e', q⟩ := hi'
    exact C.turn (t := s.toks) hs'.extBut e' q
  done := fun _ g' s ls mu Q E hg C h => by
    have h1 : s.heap.IsValIter it d kvs.length kvs.length ep := C.at
    have h2 : s.heap.DictAt knd d kvs ep := hD.at fun o e => C.gh _ _ (hg _ _ e)
    have h3 : kvs[kvs.length]? = none := by simp
    constructor
    with_reducible exact wpAny_pyNext_values_end hA h1 h2 h3 fun h' he' => h _ (C.gone (t := s.toks) he')
  self := fun _ i g' s ls mu Q E hg C h => by
    have h1 : s.heap.IsValIter it d i kvs.length ep := C.at
    constructor
    with_reducible exact wpAny_pyIter_valiter h1 h
end

section
variable {prog : Program} {w : World} {A : Around} {E : Value → Shared → Prop} {p : Par} {g g' : Heap} {s : Shared} {ls ls' : List Loc} {mu mu' : List Own} {env : Env} {pos : Pos}
  {T : Type} [DecidableEq T] {knd : KeyKind prog w T} {kvs : List (T × Value)} {d it : Addr} {n ep : Nat} {x y : Str} {px py pt : Pos} {x1 : Nat} {a b : Value}
theorem a_two {tp : Addr} (hA : A.handled = none) (C : Cx p g s ls mu) (hT : OAt s.heap tp (isPT [a, b])) {Q : Unit → Shared → Prop}
    (h : ∀ s' u', Cx p g s' ls mu → WP (model prog w) A (assign (.Name x px) env a) (fun _ s₂ => WP (model prog w) A (assign (.Name y py) env b) Q E s₂) E (tk s' u')) : WP (model prog w) A (assign (.Tuple [.Name x px, .Name y py] x1 pt) env (.ref tp)) Q E s := by
  constructor
  have hT' := hT.isTuple
  refine @wpAny_assign_Tuple _ _ _ _ _ _ _ _ _ _ _ _ hA hT' rfl rfl fun h' hx => ?_
  have C' : Cx p g { s with heap := h' } ls mu := C.grow rfl rfl rfl fun b o e => hx b o (Nat.ne_of_lt (Heap.lt_size e)) e
  show wpAny _ _ (do holding [b] (assign (.Name x px) env a); do holding [] (assign (.Name y py) env b); pure ()) _ _ _
  exact wpAny_bind (wpAny_holding ((h { s with heap := h' } s.toks C').by fun _ s₂ h₂ => wpAny_bind (wpAny_holding (h₂.by fun _ s₃ h₃ => wpAny_pure h₃))))

theorem for_items {Q : Flow → Shared → Prop} {body orelse : List Stmt} (J : Nat → Heap → List Loc → List Own → Prop) (hA : A.handled = none) (hD : g.DictAt knd d kvs ep) (C : Cx p g s ls ((it, isII d kvs.length ep 0) :: mu)) (h0 : J 0 g ls mu)
    (turn : ∀ i k v key g' s' u' ls' mu' E, kvs[i]? = some (k, v) → knd.is k key = true → g.StaysIn g' → J i g' ls' mu' → Cx p g' s' ls' ((it, isII d kvs.length ep (i + 1)) :: mu') →
      WP (model prog w) A (assign (.Name x px) env key) (fun _ s₂ => WP (model prog w) A (assign (.Name y py) env v) (fun _ s₃ => WP (model prog w) A (execs body env) (Turned p g' J it (isII d kvs.length ep) i Q (fun s => Q .next s)) E s₃) E s₂) E (tk s' u'))
    (fin : ∀ g' s' u' ls' mu' E, g.StaysIn g' → J kvs.length g' ls' mu' → Cx p g' s' ls' mu' → WP (model prog w) A (execs orelse env) Q E (tk s' u')) :
    CP (model prog w) A (.forLoop (.Tuple [.Name x px, .Name y py] x1 pt) (.ref it) body orelse env) (LoopR (model prog w) A env Q E) s := by
  constructor
  refine codeAny_forLoop_any (fun k s => ∃ i g' ls mu, k = kvs.length + 1 - i ∧ i ≤ kvs.length ∧ g.StaysIn g' ∧ Cx p g' s ls ((it, isII d kvs.length ep i) :: mu) ∧ J i g' ls mu) ?_ (kvs.length + 1) ⟨0, g, ls, mu, rfl, Nat.zero_le _, stays_refl g, C, h0⟩
  rintro k s' ⟨i, g', ls', mu', rfl, hi, hg, C', hJ⟩
  have hD' : s'.heap.DictAt knd d kvs ep := hD.at fun o e => C'.gh _ _ (hg _ _ e)
  obtain ⟨o, e, ok, ov, rfl⟩ := C'.at
  by_cases hlt : i < kvs.length
  · have h3 : kvs[i]? = some (kvs[i].1, kvs[i].2) := by simp [hlt]
    have hit : IsItemIter s'.heap it d i kvs.length ep ok ov := e
    refine @wpAny_pyNext_items_item _ _ _ _ _ _ _ _ _ _ _ _ _ _ _ _ _ _ hit hD' h3 fun key h₁ hkey heo ht₁ hz₁ hk₁ => ?_
    -- the tuple, made
    have hne : it ≠ s'.heap.objs.size := Nat.ne_of_lt (Heap.lt_size e)
    have k₁ : Heap.ExtBut it s'.heap h₁ := fun b o n e => hk₁ b o n e
    have C₁ : Cx p g' { s' with heap := h₁ } ls' ((it, fun o => o = { cls := .type "dict_itemiterator", dict := none, data := .fields #[rawInt (s'.heap.objs.size : Nat), .bool false, .ref d, .int (i + 1 : Nat) 0, .int kvs.length 0, .int ep 0, key, kvs[i].2], slots := #[] }) :: mu') :=
      C'.turn k₁ heo rfl
    refine @wpAny_letOwnedTupleGo_items _ _ _ _ _ _ _ _ _ _ _ _ _ _ _ _ _ heo fun h₂ he₂ hs₂ => ?_
    have C₂ : Cx p g' { s' with heap := h₂ } ls' ((it, isII d kvs.length ep (i + 1)) :: mu') := C₁.turn (s := { s' with heap := h₁ }) hs₂.extBut he₂ ⟨_, _, rfl⟩
    have hT : OAt h₂ s'.heap.objs.size (isPT [key, kvs[i].2]) := ⟨_, (hs₂.2 _ (Ne.symm hne)).trans ht₁, 0, rfl⟩
    refine (a_two hA C₂ hT fun s₃ u₃ C₃ => turn i _ _ key g' s₃ u₃ ls' mu' _ h3 hkey hg hJ C₃).by fun _ s₄ h₄ => h₄.by fun f s₅ h₅ => ?_
    cases f with
    | next => obtain ⟨g₂, ls₂, mu₂, a, b, c⟩ := h₅; exact ⟨kvs.length + 1 - (i + 1), by omega, i + 1, g₂, ls₂, mu₂, rfl, hlt, stays_trans hg a, b, c⟩
    | cont => obtain ⟨g₂, ls₂, mu₂, a, b, c⟩ := h₅; exact ⟨kvs.length + 1 - (i + 1), by omega, i + 1, g₂, ls₂, mu₂, rfl, hlt, stays_trans hg a, b, c⟩
    | brk => exact h₅
    | ret v => exact h₅
  · have e' : i = kvs.length := by omega
    subst e'
    have hit : IsItemIter s'.heap it d kvs.length kvs.length ep ok ov := e
    refine @wpAny_pyNext_items_end _ _ _ _ _ _ _ _ _ _ _ _ _ _ _ _ hA hit hD' (by simp) fun h' he' => ?_
    exact (fin g' { s' with heap := h' } s'.toks ls' mu' _ hg hJ (C'.gone (t := s'.toks) he')).out
end
section
variable {prog : Program} {w : World} {A : Around} {E : Value → Shared → Prop} {p : Par} {g : Heap} {s : Shared} {ls : List Loc} {mu : List Own} {Q : Value → Shared → Prop} {a : Int} {t : Tok}
theorem b_isi {n : Nat} (h : ∀ m, Q (.bool false) (tk s m)) : WP (model prog w) A (call (.builtin "isinstance") [.int a t, .type "tuple"]) Q E (tk s n) := by
  have h1 : typeOf (.type "tuple") = pure (.type "type") := (by kernel_rfl)
  have h2 : isSubtype (.type "int") (.type "tuple") = pure false := by rw [isSubtype_type]; kernel_rfl
  constructor
  refine call_isinstance_of ?_ (by intro e; cases e)
  exact isinstance_nested_false_int (by decide) h1 h2 (h _)
end

/-! dicts of numD by names, plain -/
def AllI (kvs : List (Str × Value)) : Prop := ∀ q ∈ kvs, ∃ i t, q.2 = .int i t
def unI : Value → Int
  | .int i _ => i
  | _ => 0
def numD (kvs : List (Str × Value)) : List (Str × Int) := kvs.map fun q => (q.1, unI q.2)
def keyIn (k : Str) (ns : List (Str × Int)) : Bool := ns.any fun q => decide (q.1 = k)
def upd (ns : List (Str × Int)) (k : Str) (n : Int) : List (Str × Int) := if keyIn k ns then ns.map (fun q => if q.1 = k then (q.1, q.2 + n) else q) else ns ++ [(k, n)]
def addC (ns ms : List (Str × Int)) : List (Str × Int) := ms.foldl (fun acc q => upd acc q.1 q.2) ns
theorem ints_append (a b : List (Str × Value)) : numD (a ++ b) = numD a ++ numD b := by simp [numD]
theorem keyIn_ints (kvs : List (Str × Value)) (k : Str) : keyIn k (numD kvs) = (valueAt kvs k).isSome := by
  induction kvs with
  | nil => rfl
  | cons q r ih =>
    unfold keyIn numD valueAt at *
    simp only [List.map_cons, List.any_cons, List.find?_cons]
    by_cases h : q.1 = k
    · simp [h]
    · simp only [h, decide_false, Bool.false_or]
      exact ih
theorem any_ints (kvs : List (Str × Value)) (k : Str) : (kvs.any fun q => decide (q.1 = k)) = (valueAt kvs k).isSome := by
  rw [← keyIn_ints]; simp [keyIn, numD, List.any_map]; rfl
theorem valueAt_mem {kvs : List (Str × Value)} {k : Str} {v : Value} (h : valueAt kvs k = some v) : (k, v) ∈ kvs := by
  unfold valueAt at h
  cases e : kvs.find? (fun kv => decide (kv.1 = k)) with
  | none => rw [e] at h; cases h
  | some q =>
    rw [e] at h
    have h1 := List.mem_of_find?_eq_some e
    have h2 := List.find?_some e
    simp only [decide_eq_true_eq] at h2
    simp only [Option.map_some, Option.some.injEq] at h
    rw [← h, ← h2]; exact h1
theorem stored_new {kvs : List (Str × Value)} {k : Str} {v : Value} (h : valueAt kvs k = none) : stored kvs k v = kvs ++ [(k, v)] := by
  unfold stored
  rw [if_neg (by rw [any_ints, h]; decide)]
theorem stored_old {kvs : List (Str × Value)} {k : Str} {v v' : Value} (h : valueAt kvs k = some v') : stored kvs k v = kvs.map fun kv => if kv.1 = k then (kv.1, v) else kv := by
  unfold stored
  rw [if_pos (by rw [any_ints, h]; rfl)]
theorem upd_new {kvs : List (Str × Value)} {k : Str} {n : Int} {t : Tok} (h : valueAt kvs k = none) : numD (stored kvs k (.int n t)) = upd (numD kvs) k n := by
  rw [stored_new h, ints_append]
  unfold upd
  rw [keyIn_ints, h]; rfl
theorem upd_old {kvs : List (Str × Value)} (hn : (kvs.map (·.1)).Nodup) {k : Str} {n a : Int} {t u : Tok} (h : valueAt kvs k = some (.int a u)) : numD (stored kvs k (.int (a + n) t)) = upd (numD kvs) k n := by
  rw [stored_old h]
  unfold upd
  rw [keyIn_ints, h]
  simp only [Option.isSome_some, if_true, numD, List.map_map]
  refine List.map_congr_left fun q hq => ?_
  simp only [Function.comp]
  by_cases e : q.1 = k
  · rw [if_pos e, if_pos e]
    have : q = (k, .int a u) := by
      have h1 := valueAt_mem h
      obtain ⟨i, hi⟩ := List.getElem?_of_mem hq
      have h2 : kvs[i]? = some (k, q.2) := by rw [hi, ← e]
      have h3 := valueAt_of_get hn h2
      rw [h] at h3
      rw [← e]; cases q; simp_all
    subst this; rfl
  · rw [if_neg e, if_neg e]
theorem allI_stored {kvs : List (Str × Value)} (h : AllI kvs) {k : Str} {n : Int} {t : Tok} : AllI (stored kvs k (.int n t)) := by
  unfold stored
  intro q hq
  split at hq
  · obtain ⟨r, hr, rfl⟩ := List.mem_map.mp hq
    split
    · exact ⟨_, _, rfl⟩
    · exact h r hr
  · rcases List.mem_append.mp hq with hq | hq
    · exact h q hq
    · cases List.mem_singleton.mp hq; exact ⟨_, _, rfl⟩
theorem stored_len {kvs : List (Str × Value)} {k : Str} {v : Value} : (stored kvs k v).length ≤ kvs.length + 1 := by
  unfold stored; split <;> simp
theorem valueAt_none_of_not_mem {kvs : List (Str × Value)} {k : Str} (h : k ∉ kvs.map (·.1)) : valueAt kvs k = none := by
  unfold valueAt
  rw [Option.map_eq_none_iff, List.find?_eq_none]
  intro q hq
  simp only [decide_eq_true_eq]
  exact fun e => h (List.mem_map.mpr ⟨q, hq, e⟩)
theorem addC_snoc (ns ms : List (Str × Int)) (q : Str × Int) : addC ns (ms ++ [q]) = upd (addC ns ms) q.1 q.2 := by simp [addC]
theorem take_snoc {α : Type} {l : List α} {i : Nat} {x : α} (h : l[i]? = some x) : l.take (i + 1) = l.take i ++ [x] := by
  rw [List.take_add_one, h]; rfl
/-- an own object, away for a while -/
theorem Cx.hide {p : Par} {g : Heap} {s : Shared} {ls : List Loc} {mu : List Own} {a : Addr} {P : Obj → Prop} (C : Cx p g s ls ((a, P) :: mu)) : Cx p g { s with heap := sub s.heap (· ≠ a) } ls mu := by
  obtain ⟨_, h2, h3, h4⟩ := C.own (a, P) (.head _)
  have nd := List.pairwise_cons.mp C.nd
  obtain ⟨m, ⟨oL, es, ep, hoL, r⟩, hm⟩ := C.ns
  have k : ∀ b o, b ≠ a → s.heap.get? b = some o → (sub s.heap (· ≠ a)).get? b = some o := fun b o n e => by rw [(sub_get s.heap (· ≠ a) b).1 n]; exact e
  refine ⟨⟨C.af.gens, C.af.drawn, C.af.os, C.af.gg, fun b o e => k b o (fun q => ?_) (C.gh b o e), fun b o e => k b o (fun q => ?_) (C.af.hh b o e), C.af.sep⟩,
    ⟨m, ⟨oL, es, ep, k _ _ (Ne.symm h4) hoL, r⟩, hm⟩, C.nL, C.hL, fun q hq => ?_, nd.2⟩
  · rw [q, h2] at e; cases e
  · rw [q, h3] at e; cases e
  · obtain ⟨⟨o, k1, k5⟩, k2, k3, k4⟩ := C.own q (.tail _ hq)
    exact ⟨⟨o, k _ _ (Ne.symm (nd.1 q hq)) k1, k5⟩, k2, k3, k4⟩

abbrev isNs : Obj → Prop := fun o => ∃ es ep, o.data = .dict es ep ∧ StrKeys es
/-- behind a comprehension: its own objects are the outer frame's -/
theorem Cx.join {p : Par} {g g' : Heap} {S s : Shared} {ls ls' : List Loc} {mu mu' : List Own} {L' D : Addr} {P : Obj → Prop} (C : Cx p g S ls mu) (C' : Cx ⟨S, g, L'⟩ g' s ls' ((D, P) :: mu')) :
    Cx p g' s ls ((L', isNs) :: (D, P) :: mu) := by
  have C₁ : Cx p g' s ls mu := C.after C'.af
  obtain ⟨⟨o, h1, h5⟩, h2, h3, h4⟩ := C'.own (D, P) (.head _)
  obtain ⟨oL, hoL⟩ := C.lobj
  obtain ⟨m, ⟨oC, es, ep, hC, hd, hk, _⟩, _⟩ := C'.ns
  have hL' : S.heap.get? L' = none := C'.hL
  have h3' : S.heap.get? D = none := h3
  have ne : ∀ {a b : Addr} {o : Obj}, S.heap.get? a = none → S.heap.get? b = some o → a ≠ b := fun x y e => by rw [e, y] at x; cases x
  have up : ∀ {a : Addr}, S.heap.get? a = none → p.S.heap.get? a = none := fun {a} x => by
    cases e : p.S.heap.get? a with
    | none => rfl
    | some o => rw [C.af.hh _ _ e] at x; cases x
  refine ⟨C₁.af, C₁.ns, C₁.nL, C₁.hL, fun q hq => ?_, List.pairwise_cons.mpr ⟨fun q hq => ?_, List.pairwise_cons.mpr ⟨fun q hq => ?_, C₁.nd⟩⟩⟩
  · rcases List.mem_cons.mp hq with rfl | hq
    · exact ⟨⟨oC, hC, es, ep, hd, hk⟩, C'.nL, up hL', ne hL' hoL⟩
    · rcases List.mem_cons.mp hq with rfl | hq
      · exact ⟨⟨o, h1, h5⟩, h2, up h3', ne h3' hoL⟩
      · exact C₁.own q hq
  · rcases List.mem_cons.mp hq with rfl | hq
    · exact Ne.symm h4
    · obtain ⟨⟨o, k1, _⟩, _⟩ := C.own q hq; exact ne hL' k1
  · obtain ⟨⟨o, k1, _⟩, _⟩ := C.own q hq; exact ne h3' k1

/-- a clause's tests, none or one -/
def Tst (M : Model) (A : Around) (env : Env) (Qt Qf : Shared → Prop) (E : Value → Shared → Prop) : List Expr → Shared → Prop
  | [], s => Qt s
  | [c], s => WP M A (isTrue c env (eval c env)) (fun b s' => (b = true → Qt s') ∧ (b = false → Qf s')) E s
  | _, _ => False
section
variable {prog : Program} {w : World} {A : Around} {E : Value → Shared → Prop} {s : Shared} {env : Env}
theorem tst_of {ifs : List Expr} {Qt Qf : Shared → Prop} {Q : Bool → Shared → Prop} (h : Tst (model prog w) A env Qt Qf E ifs s) (ht : ∀ s, Qt s → Q true s) (hf : ∀ s, Qf s → Q false s) :
    wpAny (model prog w) A (forIn ifs true fun c r => if r = true then do let ok ← isTrue c env (eval c env); pure (ForInStep.yield ok) else pure (ForInStep.yield r)) Q E s := by
  match ifs, h with
  | [], h => exact wpAny_tests_nil (ht _ h)
  | [c], h => exact wpAny_tests_one (h.by fun b s' x => by cases b; exact hf _ (x.2 rfl); exact ht _ (x.1 rfl))
end

/-- the names that a comprehension captures, each with its cell and what it holds -/
abbrev Free := Str × Addr × Value
theorem closure_of {scope : Scope} {env : Env} {fr : List Free} (hfr : scope.names.filterMap (fun q => if q.2 == .free then some q.1 else none) = fr.map (·.1)) (hc : ∀ q ∈ fr, env.cells.lookup q.1 = some q.2.1) :
    closureFor scope env = pure (fr.map fun q => (q.1, q.2.1)).reverse := by
  have key : ∀ (names : List (Str × NameKind)) (fr : List Free) (acc : List (Str × Addr)), names.filterMap (fun q => if q.2 == .free then some q.1 else none) = fr.map (·.1) → (∀ q ∈ fr, env.cells.lookup q.1 = some q.2.1) →
      (forIn names acc fun x r => if (x.2 == NameKind.free) = true then do let y ← cellOf env x.1; pure (ForInStep.yield ((x.1, y) :: r)) else pure (ForInStep.yield r) : Sem _) = pure ((fr.map fun q => (q.1, q.2.1)).reverse ++ acc) := by
    intro names
    induction names with
    | nil =>
      intro fr acc h _
      cases fr with
      | nil => rfl
      | cons q r => simp at h
    | cons x r ih =>
      intro fr acc h hc
      obtain ⟨n, k⟩ := x
      rw [List.forIn_cons]
      by_cases hk : (k == NameKind.free) = true
      · simp only [List.filterMap_cons, hk, if_true] at h
        cases fr with
        | nil => simp at h
        | cons q fr' =>
          obtain ⟨y, a, v⟩ := q
          simp only [List.map_cons, List.cons.injEq] at h
          obtain ⟨rfl, h⟩ := h
          have hl := hc (n, a, v) (.head _)
          simp only [hk, if_true]
          have : cellOf env n = pure a := by unfold cellOf; rw [hl]
          rw [this, pure_bind, pure_bind]
          dsimp only
          rw [ih fr' _ h fun q hq => hc q (.tail _ hq)]
          simp
      · have hk' : (k == NameKind.free) = false := by simpa using hk
        simp only [List.filterMap_cons, hk', Bool.false_eq_true, if_false] at h
        simp only [hk', Bool.false_eq_true, if_false]
        rw [pure_bind]
        exact ih fr acc h hc
  have := key scope.names fr [] hfr hc
  rw [List.append_nil] at this
  unfold closureFor
  have e : ∀ (l : List (Str × NameKind)), (forIn l ([] : List (Str × Addr)) fun x r => (match x with
      | (name, kind) => if (kind == NameKind.free) = true then do let y ← cellOf env name; pure (ForInStep.yield ((name, y) :: r)) else pure (ForInStep.yield r) : Sem _)) =
      forIn l [] fun x r => if (x.2 == NameKind.free) = true then do let y ← cellOf env x.1; pure (ForInStep.yield ((x.1, y) :: r)) else pure (ForInStep.yield r) := fun l => rfl
  show (forIn scope.names ([] : List (Str × Addr)) _ >>= fun r => pure r) = _
  rw [show ((forIn scope.names ([] : List (Str × Addr)) fun x r => if (x.2 == NameKind.free) = true then do let y ← cellOf env x.1; pure (ForInStep.yield ((x.1, y) :: r)) else pure (ForInStep.yield r)) : Sem _) = _ from this]
  rfl
theorem lookup_relabel_keep {env : Env} : ∀ {names : List (Str × NameKind)} {x : Str} {k : NameKind}, names.lookup x = some k → k ≠ .free →
    (names.map fun (n, k) => if (k == NameKind.free && env.scope.kind == .function && env.kindOf n == some .cell) then (n, NameKind.cell) else (n, k)).lookup x = some k
  | [], _, _, h, _ => by simp at h
  | (n, k') :: r, x, k, h, hk => by
    have ih := @lookup_relabel_keep env r x k
    show List.lookup x ((if (k' == NameKind.free && env.scope.kind == .function && env.kindOf n == some .cell) = true then (n, NameKind.cell) else (n, k')) :: _) = _
    cases hx : x == n with
    | true =>
      simp only [List.lookup_cons, hx] at h
      cases h
      have : (k' == NameKind.free) = false := by simpa using hk
      rw [if_neg (by rw [this]; simp)]
      simp only [List.lookup_cons, hx]
    | false =>
      simp only [List.lookup_cons, hx] at h
      by_cases hc : (k' == NameKind.free && env.scope.kind == .function && env.kindOf n == some .cell) = true
      · rw [if_pos hc]; simp only [List.lookup_cons, hx]; exact ih h hk
      · rw [if_neg hc]; simp only [List.lookup_cons, hx]; exact ih h hk
theorem lookup_relabel_free {env : Env} (hf : env.scope.kind = .function) : ∀ {names : List (Str × NameKind)} {x : Str}, names.lookup x = some .free → env.kindOf x = some .cell →
    (names.map fun (n, k) => if (k == NameKind.free && env.scope.kind == .function && env.kindOf n == some .cell) then (n, NameKind.cell) else (n, k)).lookup x = some .cell
  | [], _, h, _ => by simp at h
  | (n, k') :: r, x, h, hk => by
    have ih := @lookup_relabel_free env hf r x
    show List.lookup x ((if (k' == NameKind.free && env.scope.kind == .function && env.kindOf n == some .cell) = true then (n, NameKind.cell) else (n, k')) :: _) = _
    cases hx : x == n with
    | true =>
      simp only [List.lookup_cons, hx] at h
      cases h
      have : x = n := eq_of_beq hx
      subst this
      simp [hk, hf]
    | false =>
      simp only [List.lookup_cons, hx] at h
      by_cases hc : (k' == NameKind.free && env.scope.kind == .function && env.kindOf n == some .cell) = true
      · rw [if_pos hc]; simp only [List.lookup_cons, hx]; exact ih h hk
      · rw [if_neg hc]; simp only [List.lookup_cons, hx]; exact ih h hk

theorem lookup_nodup {l : List (Str × Addr)} (hn : (l.map (·.1)).Nodup) {q : Str × Addr} (hq : q ∈ l) : l.lookup q.1 = some q.2 := by
  induction l with
  | nil => cases hq
  | cons y r ih =>
    rw [List.map_cons, List.nodup_cons] at hn
    rcases List.mem_cons.mp hq with rfl | hq'
    · obtain ⟨a, b⟩ := q; simp
    · obtain ⟨a, b⟩ := y
      have : (q.1 == a) = false := by
        rw [beq_eq_false_iff_ne]
        intro e
        exact hn.1 (List.mem_map.mpr ⟨q, hq', e⟩)
      rw [List.lookup_cons, this]
      exact ih hn.2 hq'

/-- what a comprehension's own frame is told -/
structure CompScope (scope : Scope) (fr : List Free) (ks' : List (Str × NameKind)) : Prop where
  kind : scope.kind = .function
  free : scope.names.filterMap (fun q => if q.2 == .free then some q.1 else none) = fr.map (·.1)
  nd : (fr.map (·.1)).Nodup
  look : ∀ q ∈ fr, scope.names.lookup q.1 = some .free
  ks : ∀ q ∈ ks', scope.names.lookup q.1 = some q.2 ∧ q.2 ≠ .free
  cell : ∀ q ∈ scope.names, q.2 ≠ .cell
  names : ∀ q ∈ scope.names, q.2 = .local → scope.names.lookup q.1 = some .local
theorem CompScope.of {scope : Scope} {fr : List Free} {ks' : List (Str × NameKind)} (fn : List Str) (h0 : scope.kind = .function) (h1 : scope.names.filterMap (fun q => if q.2 == .free then some q.1 else none) = fn) (h2 : fr.map (·.1) = fn)
    (h3 : (decide fn.Nodup && fn.all (fun x => scope.names.lookup x == some .free) && ks'.all (fun q => scope.names.lookup q.1 == some q.2 && q.2 != .free) && scope.names.all (fun q => q.2 != .cell && (q.2 != .local || scope.names.lookup q.1 == some .local))) = true) :
    CompScope scope fr ks' := by
  simp only [Bool.and_eq_true, List.all_eq_true, decide_eq_true_eq] at h3
  obtain ⟨⟨⟨a, b⟩, c⟩, d⟩ := h3
  refine ⟨h0, h1.trans h2.symm, h2 ▸ a, fun q hq => ?_, fun q hq => ?_, fun q hq e => ?_, fun q hq e => ?_⟩
  · have := b q.1 (h2 ▸ List.mem_map_of_mem hq); simpa using this
  · have := c q hq; simpa using this
  · have := (d q hq).1; rw [e] at this; exact absurd this (by decide)
  · have := (d q hq).2; rw [e] at this; simpa using this

section
variable {prog : Program} {w : World} {A : Around} {E : Value → Shared → Prop} {p : Par} {g : Heap} {s : Shared} {ls : List Loc} {mu : List Own} {env : Env} {ks ks' : List (Str × NameKind)} {I : Addr} {n : Nat} {P : Nat → Obj → Prop} {V : Nat → Value → Prop}
  {scope : Scope} {fr : List Free} {elt kx vx target iter : Expr} {ifs : List Expr} {pos : Pos}

abbrev clOf (fr : List Free) : List (Str × Addr) := (fr.map fun q => (q.1, q.2.1)).reverse
abbrev cpOf (fr : List Free) : List Loc := fr.map fun q => (q.1, q.2.2)
theorem comp_env (H : En env p.L ks) (Z : CompScope scope fr ks') {h : Heap} (hc : ∀ q ∈ fr, env.kindOf q.1 = some .cell ∧ h.IsCell q.2.1 (some q.2.2)) (C : Addr) :
    En (compEnvC scope (clOf fr) C env) C ks' ∧ Caps h (compEnvC scope (clOf fr) C env) (cpOf fr) := by
  refine ⟨⟨Z.kind, rfl, H.glob, H.bt, fun q hq => ?_⟩, fun q hq => ?_⟩
  · exact lookup_relabel_keep (Z.ks q hq).1 (Z.ks q hq).2
  · obtain ⟨r, hr, rfl⟩ := List.mem_map.mp hq
    refine ⟨lookup_relabel_free H.kind (Z.look r hr) (hc r hr).1, r.2.1, ?_, (hc r hr).2⟩
    refine lookup_nodup (q := (r.1, r.2.1)) ?_ (List.mem_reverse.mpr (List.mem_map.mpr ⟨r, hr, rfl⟩))
    show ((clOf fr).map (·.1)).Nodup
    rw [List.map_reverse, List.map_map]
    exact (List.reverse_perm _).nodup_iff.mpr Z.nd

/-- the frame of a comprehension begins -/
theorem comp_begin (C : Cx p g s ls ((I, P 0) :: mu)) {o : Obj} {R : Obj → Prop} (hR : R o) (hf : o.isFreed = false) {h₁ : Heap} {t : Nat}
    (hn : h₁.Ns (s.heap.push o).objs.size (fun _ => none)) (hs : Heap.SameBut (s.heap.push o).objs.size ((s.heap.push o).push { cls := .type "dict", data := .dict #[] }) h₁) :
    Cx ⟨{ s with heap := sub s.heap (· ≠ I) }, g, (s.heap.push o).objs.size⟩ g { s with heap := h₁, toks := t } [] [(I, P 0), (s.heap.objs.size, R)] := by
  have hsz : (s.heap.push o).objs.size = s.heap.objs.size + 1 := Heap.size_push ..
  obtain ⟨⟨oI, hI, hP⟩, hgI, hSI, hLI⟩ := C.own (I, P 0) (.head _)
  have up : ∀ b ob, s.heap.get? b = some ob → h₁.get? b = some ob := fun b ob e =>
    (hs.2 b (Nat.ne_of_lt (by rw [hsz]; exact Nat.lt_succ_of_lt (Heap.lt_size e)))).trans (Heap.get?_push_of_some _ (Heap.get?_push_of_some _ e))
  have hid : ∀ b, (sub s.heap (· ≠ I)).get? b = if b = I then none else s.heap.get? b := fun b => by
    by_cases q : b = I
    · rw [if_pos q, (sub_get s.heap (· ≠ I) b).2 (by simpa using q)]
    · rw [if_neg q, (sub_get s.heap (· ≠ I) b).1 q]
  have small : ∀ b, s.heap.objs.size ≤ b → s.heap.get? b = none := fun b hb => by
    cases e : s.heap.get? b with
    | none => rfl
    | some o' => exact absurd (Heap.lt_size e) (Nat.not_lt.mpr hb)
  have hgn : ∀ b, s.heap.objs.size ≤ b → g.get? b = none := fun b hb => by
    cases e : g.get? b with
    | none => rfl
    | some o' => have := C.gh _ _ e; rw [small b hb] at this; cases this
  refine ⟨⟨rfl, rfl, rfl, stays_refl g, fun b ob e => up b ob (C.gh _ _ e), fun b ob e => ?_, fun b ob e n => n⟩, ⟨_, hn, fun q hq => nomatch hq⟩, hgn _ (by show _ ≤ (s.heap.push o).objs.size; rw [hsz]; exact Nat.le_succ _), ?_, fun q hq => ?_, ?_⟩
  · rw [hid] at e
    split at e
    · cases e
    · exact up b ob e
  · show (sub s.heap (· ≠ I)).get? _ = none
    rw [hid]; split
    · rfl
    · exact small _ (by show _ ≤ (s.heap.push o).objs.size; rw [hsz]; exact Nat.le_succ _)
  · rcases List.mem_cons.mp hq with rfl | hq
    · refine ⟨⟨oI, up _ _ hI, hP⟩, hgI, ?_, ?_⟩
      · show (sub s.heap (· ≠ I)).get? I = none
        rw [hid, if_pos rfl]
      · exact Nat.ne_of_lt (by show I < _; rw [hsz]; exact Nat.lt_succ_of_lt (Heap.lt_size hI))
    · cases List.mem_singleton.mp hq
      refine ⟨⟨o, ?_, hR⟩, hgn _ (Nat.le_refl _), ?_, ?_⟩
      · refine (hs.2 _ (Nat.ne_of_lt (by show s.heap.objs.size < _; rw [hsz]; exact Nat.lt_succ_self _))).trans (Heap.get?_push_of_some _ (Heap.get?_push_size _ hf))
      · show (sub s.heap (· ≠ I)).get? _ = none
        rw [hid]; split
        · rfl
        · exact small _ (Nat.le_refl _)
      · exact Nat.ne_of_lt (by show s.heap.objs.size < _; rw [hsz]; exact Nat.lt_succ_self _)
  · refine List.pairwise_cons.mpr ⟨fun q hq => ?_, List.pairwise_singleton _ _⟩
    cases List.mem_singleton.mp hq
    exact Nat.ne_of_lt (Heap.lt_size hI)

/-- what an item of a list comprehension makes: the next state -/
def Made1 (p' : Par) (g : Heap) (J : Nat → Heap → List Value → Prop) (I D : Addr) (P : Nat → Obj → Prop) (i : Nat) (ys : List Value) (y : Value) (s : Shared) : Prop :=
  ∃ g' ls mu mu', g.StaysIn g' ∧ Cx p' g' s ls mu ∧ Pick (I, P (i + 1)) mu mu' ∧ (∃ mu'', Pick (D, isPL ys) mu' mu'') ∧ J (i + 1) g' (ys ++ [y])
def Skip1 (p' : Par) (g : Heap) (J : Nat → Heap → List Value → Prop) (I D : Addr) (P : Nat → Obj → Prop) (i : Nat) (ys : List Value) (s : Shared) : Prop :=
  ∃ g' ls mu mu', g.StaysIn g' ∧ Cx p' g' s ls mu ∧ Pick (I, P (i + 1)) mu mu' ∧ (∃ mu'', Pick (D, isPL ys) mu' mu'') ∧ J (i + 1) g' ys

theorem comp_list (S : Src prog w A g I n P V) (hn : n ≤ 1000) (C : Cx p g s ls ((I, P 0) :: mu)) (H : En env p.L ks) (Z : CompScope scope fr ks') (hfr : ∀ q ∈ fr, env.kindOf q.1 = some .cell ∧ env.cells.lookup q.1 = some q.2.1 ∧ (q.2.1, isCell (some q.2.2)) ∈ mu)
    (ht : ∀ v, letOwnedTupleGo target (.ref I) v = pure ()) (J : Nat → Heap → List Value → Prop) (h0 : J 0 g [])
    (turn : ∀ S' L' cenv D, En cenv L' ks' → Caps S'.heap cenv (cpOf fr) → ∀ i v g' ys s' u' E, i < n → V i v → g.StaysIn g' → J i g' ys → Cx ⟨S', g, L'⟩ g' s' [] [(I, P (i + 1)), (D, isPL ys)] →
      WP (model prog w) A (assign target cenv v) (fun _ s₂ => Tst (model prog w) A cenv (fun s₃ => WP (model prog w) A (eval elt cenv) (Made1 ⟨S', g, L'⟩ g' J I D P i ys) E s₃) (Skip1 ⟨S', g, L'⟩ g' J I D P i ys) E ifs s₂) E (tk s' u'))
    {RR : Value → Addr → Result → Shared → Prop}
    (hR : ∀ g' s' L' D ys, g.StaysIn g' → J n g' ys → Cx p g' s' ls ((L', isNs) :: (D, isPL ys) :: mu) → RR (.ref D) L' (.ok .next) s') :
    wpAny (model prog w) A (newList []) (fun acc s₃ => wpAny (model prog w) A (newFunctionEnv scope env.globals (clOf fr) [] env.qual none .none (some env)) (fun cenv s₄ =>
      codeAny (model prog w) A (.compStart (.ListComp elt [⟨target, iter, ifs, 0⟩] scope pos) 0 (.ref I) acc { cenv with scope := relabel scope env }) (RR acc cenv.locals) s₄) E s₃) E s := by
  refine wpAny_newObj_type (wpAny_newFunctionEnv Z.cell (by intro y hy; simp at hy) (fun h₁ hns hsb => ?_) Z.kind)
  dsimp only at hns hsb ⊢
  have C₁ := comp_begin C (o := { cls := .type "list", data := .seq ([] : List Value).toArray }) (R := isPL []) ⟨0, rfl⟩ rfl (h₁ := h₁) (t := s.toks + ([] : List (Str × Value)).length) hns hsb
  generalize hD : s.heap.objs.size = D at C₁
  generalize hL' : (s.heap.push { cls := .type "list", data := .seq ([] : List Value).toArray }).objs.size = L' at C₁ ⊢
  obtain ⟨S', hS'⟩ : ∃ S' : Shared, S' = { s with heap := sub s.heap (· ≠ I) } := ⟨_, rfl⟩
  rw [← hS'] at C₁
  have hnI : ∀ q ∈ fr, q.2.1 ≠ I := fun q hq e => by
    have := (List.pairwise_cons.mp C.nd).1 _ (hfr q hq).2.2
    exact this e.symm
  obtain ⟨HE, HC⟩ := comp_env (h := S'.heap) H Z (fun q hq => ⟨(hfr q hq).1, by
    obtain ⟨o, e, y⟩ := C.owns (List.mem_cons_of_mem _ (hfr q hq).2.2)
    refine ⟨o, ?_, y⟩
    subst hS'
    show (sub s.heap (· ≠ I)).get? _ = _
    rw [(sub_get s.heap (· ≠ I) _).1 (hnI q hq)]; exact e⟩) L'
  have loop : codeAny (model prog w) A (.compLoop (.ListComp elt [⟨target, iter, ifs, 0⟩] scope pos) 0 (.ref I) (.ref D) (compEnvC scope (clOf fr) L' env)) (RR (.ref D) L') { s with heap := h₁, toks := s.toks + ([] : List (Str × Value)).length } := by
    refine codeAny_compLoop_tests (fun k s' => ∃ i g' ys, k = n + 1 - i ∧ i ≤ n ∧ ys.length ≤ i ∧ g.StaysIn g' ∧ J i g' ys ∧ Cx ⟨S', g, L'⟩ g' s' [] [(I, P i), (D, isPL ys)]) ?_ (n + 1) ⟨0, g, [], rfl, Nat.zero_le _, Nat.le_refl _, stays_refl g, h0, C₁⟩ ht
    rintro k s' ⟨i, g', ys, rfl, hi, hlen, hg, hJ, C'⟩
    by_cases hlt : i < n
    · refine (S.next _ i g' s' [] _ _ _ hlt hg C' fun v s₁ hv C₂ => ?_).out
      refine (turn S' L' _ D HE HC i v g' ys s₁ s₁.toks _ hlt hv hg hJ C₂).by fun _ s₂ h₂ => ?_
      refine tst_of h₂ (fun s₃ h₃ => ?_) fun s₃ h₃ => ?_
      · rw [if_pos rfl]
        refine h₃.by fun y s₄ h₄ => ?_
        obtain ⟨g'', ls'', mu'', mu₃, a, b, c, ⟨mu₄, d⟩, e⟩ := h₄
        have b₁ := (b.pick c).perm (List.Perm.cons _ d.perm)
        have b₂ := b₁.perm (List.Perm.swap _ _ _)
        have hl : s₄.heap.PlainList D ys.toArray := OAt.plain b₂.at
        refine wpAny_list_append_plain (hsz := by rw [List.size_toArray]; exact Nat.le_trans (Nat.le_trans (by omega) hn) (by decide)) hl fun h' hl' hs' => ?_
        obtain ⟨m, e'⟩ := hl'
        have b₃ : Cx ⟨S', g, L'⟩ g'' { s₄ with heap := h' } ls'' ((D, isPL (ys ++ [y])) :: (I, P (i + 1)) :: mu₄) := b₂.turn (t := s₄.toks) hs'.extBut e' ⟨m, by simp⟩
        refine ⟨n + 1 - (i + 1), by omega, i + 1, g'', ys ++ [y], rfl, hlt, by rw [List.length_append, List.length_singleton]; omega, stays_trans hg a, e, ?_⟩
        have b₄ := b₃.perm (List.Perm.swap _ _ _)
        have b₅ : Cx ⟨S', g, L'⟩ g'' { s₄ with heap := h' } ls'' [(I, P (i + 1)), (D, isPL (ys ++ [y]))] := by
          refine ⟨b₄.af, b₄.ns, b₄.nL, b₄.hL, fun q hq => b₄.own q ?_, ?_⟩
          · rcases List.mem_cons.mp hq with rfl | hq
            · exact .head _
            · cases List.mem_singleton.mp hq; exact .tail _ (.head _)
          · exact List.Pairwise.sublist (List.Sublist.cons_cons _ (List.Sublist.cons_cons _ (List.nil_sublist _))) b₄.nd
        exact b₅.less fun q hq => nomatch hq
      · rw [if_neg Bool.false_ne_true]
        obtain ⟨g'', ls'', mu'', mu₃, a, b, c, ⟨mu₄, d⟩, e⟩ := h₃
        have b₄ := (b.pick c).perm (List.Perm.cons _ d.perm)
        refine ⟨n + 1 - (i + 1), by omega, i + 1, g'', ys, rfl, hlt, by omega, stays_trans hg a, e, ?_⟩
        have b₅ : Cx ⟨S', g, L'⟩ g'' s₃ ls'' [(I, P (i + 1)), (D, isPL ys)] := by
          refine ⟨b₄.af, b₄.ns, b₄.nL, b₄.hL, fun q hq => b₄.own q ?_, ?_⟩
          · rcases List.mem_cons.mp hq with rfl | hq
            · exact .head _
            · cases List.mem_singleton.mp hq; exact .tail _ (.head _)
          · exact List.Pairwise.sublist (List.Sublist.cons_cons _ (List.Sublist.cons_cons _ (List.nil_sublist _))) b₄.nd
        exact b₅.less fun q hq => nomatch hq
    · have e : i = n := by omega
      subst e
      refine (S.done _ g' s' [] _ _ _ hg C' fun s₁ C₂ => ?_).out
      refine hR g' s₁ L' D ys hg hJ ?_
      have C₀ : Cx p g S' ls mu := by subst hS'; exact C.hide
      exact C₀.join C₂
  have hself := S.self ⟨S', g, L'⟩ 0 g { s with heap := h₁, toks := s.toks + ([] : List (Str × Value)).length } [] _ (fun it' s' => codeAny (model prog w) A (.compLoop (.ListComp elt [⟨target, iter, ifs, 0⟩] scope pos) 0 it' (.ref D) (compEnvC scope (clOf fr) L' env)) (RR (.ref D) L') s')
    (notedBy (model prog w) A (compEnvC scope (clOf fr) L' env) fun x s' => RR (.ref D) L' (.error x) s') (stays_refl g) C₁ loop
  exact codeAny_compStart_list loop hself.out
end
theorem stored_le {T : Type} [DecidableEq T] {kvs : List (T × Value)} {k : T} {v : Value} : (stored kvs k v).length ≤ kvs.length + 1 := by
  unfold stored; split <;> simp
section
variable {prog : Program} {w : World} {A : Around} {E : Value → Shared → Prop} {p : Par} {g : Heap} {s : Shared} {ls : List Loc} {mu : List Own} {env : Env} {ks ks' : List (Str × NameKind)} {I : Addr} {n : Nat} {P : Nat → Obj → Prop} {V : Nat → Value → Prop}
  {scope : Scope} {fr : List Free} {elt kx vx target iter : Expr} {ifs : List Expr} {pos : Pos} {T : Type} [DecidableEq T]

def Made2 (knd : KeyKind prog w T) (p' : Par) (g : Heap) (J : Nat → Heap → List (T × Value) → Prop) (I D : Addr) (P : Nat → Obj → Prop) (i : Nat) (kvs : List (T × Value)) (kv vv : Value) (s : Shared) : Prop :=
  ∃ k g' ls mu mu', knd.is k kv = true ∧ g.StaysIn g' ∧ Cx p' g' s ls mu ∧ Pick (I, P (i + 1)) mu mu' ∧ (∃ mu'', Pick (D, isDk knd kvs) mu' mu'') ∧ J (i + 1) g' (stored kvs k vv)
def Skip2 (knd : KeyKind prog w T) (p' : Par) (g : Heap) (J : Nat → Heap → List (T × Value) → Prop) (I D : Addr) (P : Nat → Obj → Prop) (i : Nat) (kvs : List (T × Value)) (s : Shared) : Prop :=
  ∃ g' ls mu mu', g.StaysIn g' ∧ Cx p' g' s ls mu ∧ Pick (I, P (i + 1)) mu mu' ∧ (∃ mu'', Pick (D, isDk knd kvs) mu' mu'') ∧ J (i + 1) g' kvs
theorem comp_dict (knd : KeyKind prog w T) (S : Src prog w A g I n P V) (hn : n ≤ 1000) (C : Cx p g s ls ((I, P 0) :: mu)) (H : En env p.L ks) (Z : CompScope scope fr ks') (hfr : ∀ q ∈ fr, env.kindOf q.1 = some .cell ∧ env.cells.lookup q.1 = some q.2.1 ∧ (q.2.1, isCell (some q.2.2)) ∈ mu)
    (ht : ∀ v, letOwnedTupleGo target (.ref I) v = pure ()) (J : Nat → Heap → List (T × Value) → Prop) (h0 : J 0 g [])
    (turn : ∀ S' L' cenv D, En cenv L' ks' → Caps S'.heap cenv (cpOf fr) → ∀ i v g' kvs s' u' E, i < n → V i v → g.StaysIn g' → J i g' kvs → Cx ⟨S', g, L'⟩ g' s' [] [(I, P (i + 1)), (D, isDk knd kvs)] →
      WP (model prog w) A (assign target cenv v) (fun _ s₂ => Tst (model prog w) A cenv (fun s₃ => WP (model prog w) A (eval kx cenv) (fun kv s₄ => WP (model prog w) A (eval vx cenv) (Made2 knd ⟨S', g, L'⟩ g' J I D P i kvs kv) E s₄) E s₃) (Skip2 knd ⟨S', g, L'⟩ g' J I D P i kvs) E ifs s₂) E (tk s' u'))
    {RR : Value → Addr → Result → Shared → Prop}
    (hR : ∀ g' s' L' D kvs, s.heap.objs.size ≤ D → g.StaysIn g' → J n g' kvs → Cx p g' s' ls ((L', isNs) :: (D, isDk knd kvs) :: mu) → RR (.ref D) L' (.ok .next) s') :
    wpAny (model prog w) A newDict (fun acc s₃ => wpAny (model prog w) A (newFunctionEnv scope env.globals (clOf fr) [] env.qual none .none (some env)) (fun cenv s₄ =>
      codeAny (model prog w) A (.compStart (.DictComp kx vx [⟨target, iter, ifs, 0⟩] scope pos) 0 (.ref I) acc { cenv with scope := relabel scope env }) (RR acc cenv.locals) s₄) E s₃) E s := by
  refine wpAny_newObj_type (wpAny_newFunctionEnv Z.cell (by intro y hy; simp at hy) (fun h₁ hns hsb => ?_) Z.kind)
  dsimp only at hns hsb ⊢
  have C₁ := comp_begin C (o := { cls := .type "dict", data := .dict #[] }) (R := isDk knd []) ⟨#[], 0, ⟨rfl, rfl, rfl⟩, rfl, (fun _ he => by simp at he), Pairs.nil, List.nodup_nil⟩ rfl (h₁ := h₁) (t := s.toks + ([] : List (Str × Value)).length) hns hsb
  generalize hD : s.heap.objs.size = D at C₁
  generalize hL' : (s.heap.push { cls := .type "dict", data := .dict #[] }).objs.size = L' at C₁ ⊢
  obtain ⟨S', hS'⟩ : ∃ S' : Shared, S' = { s with heap := sub s.heap (· ≠ I) } := ⟨_, rfl⟩
  rw [← hS'] at C₁
  have hnI : ∀ q ∈ fr, q.2.1 ≠ I := fun q hq e => by
    have := (List.pairwise_cons.mp C.nd).1 _ (hfr q hq).2.2
    exact this e.symm
  obtain ⟨HE, HC⟩ := comp_env (h := S'.heap) H Z (fun q hq => ⟨(hfr q hq).1, by
    obtain ⟨o, e, y⟩ := C.owns (List.mem_cons_of_mem _ (hfr q hq).2.2)
    refine ⟨o, ?_, y⟩
    subst hS'
    show (sub s.heap (· ≠ I)).get? _ = _
    rw [(sub_get s.heap (· ≠ I) _).1 (hnI q hq)]; exact e⟩) L'
  have loop : codeAny (model prog w) A (.compLoop (.DictComp kx vx [⟨target, iter, ifs, 0⟩] scope pos) 0 (.ref I) (.ref D) (compEnvC scope (clOf fr) L' env)) (RR (.ref D) L') { s with heap := h₁, toks := s.toks + ([] : List (Str × Value)).length } := by
    refine codeAny_compLoop_testsD (fun k s' => ∃ i g' kvs, k = n + 1 - i ∧ i ≤ n ∧ kvs.length ≤ i ∧ g.StaysIn g' ∧ J i g' kvs ∧ Cx ⟨S', g, L'⟩ g' s' [] [(I, P i), (D, isDk knd kvs)]) ?_ (n + 1) ⟨0, g, [], rfl, Nat.zero_le _, Nat.le_refl _, stays_refl g, h0, C₁⟩ ht
    rintro k s' ⟨i, g', kvs, rfl, hi, hlen, hg, hJ, C'⟩
    by_cases hlt : i < n
    · refine (S.next _ i g' s' [] _ _ _ hlt hg C' fun v s₁ hv C₂ => ?_).out
      refine (turn S' L' _ D HE HC i v g' kvs s₁ s₁.toks _ hlt hv hg hJ C₂).by fun _ s₂ h₂ => ?_
      refine tst_of h₂ (fun s₃ h₃ => ?_) fun s₃ h₃ => ?_
      · rw [if_pos rfl]
        refine h₃.by fun kv s₄ h₄ => h₄.by fun vv s₅ h₅ => ?_
        obtain ⟨k, g'', ls'', mu'', mu₃, hkey, a, b, c, ⟨mu₄, d⟩, e⟩ := h₅
        have b₁ := (b.pick c).perm (List.Perm.cons _ d.perm)
        have b₂ := b₁.perm (List.Perm.swap _ _ _)
        have hD' : s₅.heap.DictOf knd D kvs := OAt.dict b₂.at
        refine wpAny_dictSet_pairs (hsz := Nat.le_trans (Nat.le_trans (by omega) hn) (by decide)) hkey hD' fun h' hd' hs' => ?_
        obtain ⟨o', e', q'⟩ := dict_oat hd'
        have b₃ : Cx ⟨S', g, L'⟩ g'' { s₅ with heap := h', toks := s₅.toks + 1 } ls'' ((D, isDk knd (stored kvs k vv)) :: (I, P (i + 1)) :: mu₄) := b₂.turn hs'.extBut e' q'
        refine ⟨n + 1 - (i + 1), by omega, i + 1, g'', stored kvs k vv, rfl, hlt, Nat.le_trans (stored_le) (by omega), stays_trans hg a, e, ?_⟩
        have b₄ := b₃.perm (List.Perm.swap _ _ _)
        have b₅ : Cx ⟨S', g, L'⟩ g'' { s₅ with heap := h', toks := s₅.toks + 1 } ls'' [(I, P (i + 1)), (D, isDk knd (stored kvs k vv))] := by
          refine ⟨b₄.af, b₄.ns, b₄.nL, b₄.hL, fun q hq => b₄.own q ?_, ?_⟩
          · rcases List.mem_cons.mp hq with rfl | hq
            · exact .head _
            · cases List.mem_singleton.mp hq; exact .tail _ (.head _)
          · exact List.Pairwise.sublist (List.Sublist.cons_cons _ (List.Sublist.cons_cons _ (List.nil_sublist _))) b₄.nd
        exact b₅.less fun q hq => nomatch hq
      · rw [if_neg Bool.false_ne_true]
        obtain ⟨g'', ls'', mu'', mu₃, a, b, c, ⟨mu₄, d⟩, e⟩ := h₃
        have b₄ := (b.pick c).perm (List.Perm.cons _ d.perm)
        refine ⟨n + 1 - (i + 1), by omega, i + 1, g'', kvs, rfl, hlt, by omega, stays_trans hg a, e, ?_⟩
        have b₅ : Cx ⟨S', g, L'⟩ g'' s₃ ls'' [(I, P (i + 1)), (D, isDk knd kvs)] := by
          refine ⟨b₄.af, b₄.ns, b₄.nL, b₄.hL, fun q hq => b₄.own q ?_, ?_⟩
          · rcases List.mem_cons.mp hq with rfl | hq
            · exact .head _
            · cases List.mem_singleton.mp hq; exact .tail _ (.head _)
          · exact List.Pairwise.sublist (List.Sublist.cons_cons _ (List.Sublist.cons_cons _ (List.nil_sublist _))) b₄.nd
        exact b₅.less fun q hq => nomatch hq
    · have e : i = n := by omega
      subst e
      refine (S.done _ g' s' [] _ _ _ hg C' fun s₁ C₂ => ?_).out
      refine hR g' s₁ L' D kvs (Nat.le_of_eq hD) hg hJ ?_
      have C₀ : Cx p g S' ls mu := by subst hS'; exact C.hide
      exact C₀.join C₂
  have hself := S.self ⟨S', g, L'⟩ 0 g { s with heap := h₁, toks := s.toks + ([] : List (Str × Value)).length } [] _ (fun it' s' => codeAny (model prog w) A (.compLoop (.DictComp kx vx [⟨target, iter, ifs, 0⟩] scope pos) 0 it' (.ref D) (compEnvC scope (clOf fr) L' env)) (RR (.ref D) L') s')
    (notedBy (model prog w) A (compEnvC scope (clOf fr) L' env) fun x s' => RR (.ref D) L' (.error x) s') (stays_refl g) C₁ loop
  exact codeAny_compStart_dict loop hself.out

/-- behind a comprehension -/
structure LGoal (prog : Program) (w : World) (A : Around) (E : Value → Shared → Prop) (env : Env) (scope : Scope) (fr : List Free) (e : Expr) (acc : Sem Value) (RR : Value → Addr → Result → Shared → Prop) (it : Value) (s : Shared) : Prop where
  out : wpAny (model prog w) A acc (fun acc s₃ => wpAny (model prog w) A (newFunctionEnv scope env.globals (clOf fr) [] env.qual none .none (some env)) (fun cenv s₄ =>
      codeAny (model prog w) A (.compStart e 0 it acc { cenv with scope := relabel scope env }) (RR acc cenv.locals) s₄) E s₃) E s
theorem clos_of (Z : CompScope scope fr ks') (hc : ∀ q ∈ fr, env.cells.lookup q.1 = some q.2.1) : closureFor scope env = pure (clOf fr) := closure_of Z.free hc
theorem e_lcomp {Q : Value → Shared → Prop} (Z : CompScope scope fr ks') (hc : ∀ q ∈ fr, env.cells.lookup q.1 = some q.2.1)
    (h : WP (model prog w) A (eval iter env) (fun x s₁ => WP (model prog w) A (pyIter x) (fun it s₂ => LGoal prog w A E env scope fr (.ListComp elt [⟨target, iter, ifs, 0⟩] scope pos) (newList []) (compPost (model prog w) A E none Q) it s₂) E s₁) E s)
    (hs : ∀ x, foldedSetIterable iter env x = pure x) : WP (model prog w) A (eval (.ListComp elt [⟨target, iter, ifs, 0⟩] scope pos) env) Q E s := by
  constructor
  rw [eval_ListComp]
  exact wpAny_comprehension_free (use := none) rfl hs (clos_of Z hc) Z.kind Z.names (h.by fun xv s₁ h₁ => h₁.by fun it s₂ h₂ => h₂.out)
theorem e_dcomp {Q : Value → Shared → Prop} (Z : CompScope scope fr ks') (hc : ∀ q ∈ fr, env.cells.lookup q.1 = some q.2.1)
    (h : WP (model prog w) A (eval iter env) (fun x s₁ => WP (model prog w) A (pyIter x) (fun it s₂ => LGoal prog w A E env scope fr (.DictComp kx vx [⟨target, iter, ifs, 0⟩] scope pos) newDict (compPost (model prog w) A E none Q) it s₂) E s₁) E s)
    (hs : ∀ x, foldedSetIterable iter env x = pure x) : WP (model prog w) A (eval (.DictComp kx vx [⟨target, iter, ifs, 0⟩] scope pos) env) Q E s := by
  constructor
  rw [arm_eval_DictComp]
  exact wpAny_comprehension_free (use := none) rfl hs (clos_of Z hc) Z.kind Z.names (h.by fun xv s₁ h₁ => h₁.by fun it s₂ h₂ => h₂.out)
section
variable {y : Str} {py spos : Pos} {rest : List Stmt} {Q : Flow → Shared → Prop}
theorem k_lcomp (hsw : swapsWith (.ListComp elt [⟨target, iter, ifs, 0⟩] scope pos) (some (.Name y py)) spos.line env = pure true) (Z : CompScope scope fr ks') (hc : ∀ q ∈ fr, env.cells.lookup q.1 = some q.2.1)
    (h : WP (model prog w) A (eval iter env) (fun x s₁ => WP (model prog w) A (pyIter x) (fun it s₂ => LGoal prog w A E env scope fr (.ListComp elt [⟨target, iter, ifs, 0⟩] scope pos) (newList []) (compPost (model prog w) A E (some (assign (.Name y py) env)) (fun _ s' => WP (model prog w) A (execs rest env) Q E s')) it s₂) E s₁) E s)
    (hs : ∀ x, foldedSetIterable iter env x = pure x) : WP (model prog w) A (execs (.Assign [.Name y py] (.ListComp elt [⟨target, iter, ifs, 0⟩] scope pos) spos :: rest) env) Q E s := by
  refine k_cons ⟨?_⟩
  rw [exec_Assign_Name_used _ _ _ _ hsw]
  refine wpAny_bind (wpAny_standAt (wpAny_bind ?_))
  show wpAny _ A (do let _ ← comprehension (.ListComp elt [⟨target, iter, ifs, 0⟩] scope pos) scope env _ (newList []) false (eval iter env) (some (assign (.Name y py) env))) _ _ s
  refine wpAny_bind (wpAny_mono (wpAny_comprehension_free (use := some (assign (.Name y py) env)) (Q := fun _ s' => WP (model prog w) A (execs rest env) Q E s') rfl hs (clos_of Z hc) Z.kind Z.names
    (h.by fun xv s₁ h₁ => h₁.by fun it s₂ h₂ => h₂.out)) (fun _ s' hq => wpAny_pure (wpAny_pure (Then.next hq))) fun _ _ e => e)
theorem k_dcomp (hsw : swapsWith (.DictComp kx vx [⟨target, iter, ifs, 0⟩] scope pos) (some (.Name y py)) spos.line env = pure true) (Z : CompScope scope fr ks') (hc : ∀ q ∈ fr, env.cells.lookup q.1 = some q.2.1)
    (h : WP (model prog w) A (eval iter env) (fun x s₁ => WP (model prog w) A (pyIter x) (fun it s₂ => LGoal prog w A E env scope fr (.DictComp kx vx [⟨target, iter, ifs, 0⟩] scope pos) newDict (compPost (model prog w) A E (some (assign (.Name y py) env)) (fun _ s' => WP (model prog w) A (execs rest env) Q E s')) it s₂) E s₁) E s)
    (hs : ∀ x, foldedSetIterable iter env x = pure x) : WP (model prog w) A (execs (.Assign [.Name y py] (.DictComp kx vx [⟨target, iter, ifs, 0⟩] scope pos) spos :: rest) env) Q E s := by
  refine k_cons ⟨?_⟩
  rw [exec_Assign_Name_used _ _ _ _ hsw]
  refine wpAny_bind (wpAny_standAt (wpAny_bind ?_))
  show wpAny _ A (do let _ ← comprehension (.DictComp kx vx [⟨target, iter, ifs, 0⟩] scope pos) scope env _ newDict false (eval iter env) (some (assign (.Name y py) env))) _ _ s
  refine wpAny_bind (wpAny_mono (wpAny_comprehension_free (use := some (assign (.Name y py) env)) (Q := fun _ s' => WP (model prog w) A (execs rest env) Q E s') rfl hs (clos_of Z hc) Z.kind Z.names
    (h.by fun xv s₁ h₁ => h₁.by fun it s₂ h₂ => h₂.out)) (fun _ s' hq => wpAny_pure (wpAny_pure (Then.next hq))) fun _ _ e => e)
theorem swaps_l (hk : env.scope.kind = .function) (hy : env.kindOf y = some .local) {sl : Nat} (h : (py.line == pos.line && !(scope.names.any fun (n, k) => n == y && (k == .local || k == .cell))) = true) :
    swapsWith (.ListComp elt [⟨target, iter, ifs, 0⟩] scope pos) (some (.Name y py)) sl env = pure true := by
  have e : swapsWith (.ListComp elt [⟨target, iter, ifs, 0⟩] scope pos) (some (.Name y py)) sl env = pure (env.blockKind == .function && env.kindOf y == some .local && py.line == pos.line
      && !(scope.names.any fun (n, k) => n == y && (k == .local || k == .cell))) := rfl
  rw [e, hy]
  have : (env.blockKind == .function) = true := by unfold Env.blockKind; rw [hk]; rfl
  rw [this]
  simp only [Bool.and_eq_true] at h
  rw [h.1, h.2]; rfl
theorem swaps_d (hk : env.scope.kind = .function) (hy : env.kindOf y = some .local) {sl : Nat} (h : (py.line == pos.line && !(scope.names.any fun (n, k) => n == y && (k == .local || k == .cell))) = true) :
    swapsWith (.DictComp kx vx [⟨target, iter, ifs, 0⟩] scope pos) (some (.Name y py)) sl env = pure true := by
  have e : swapsWith (.DictComp kx vx [⟨target, iter, ifs, 0⟩] scope pos) (some (.Name y py)) sl env = pure (env.blockKind == .function && env.kindOf y == some .local && py.line == pos.line
      && !(scope.names.any fun (n, k) => n == y && (k == .local || k == .cell))) := rfl
  rw [e, hy]
  have : (env.blockKind == .function) = true := by unfold Env.blockKind; rw [hk]; rfl
  rw [this]
  simp only [Bool.and_eq_true] at h
  rw [h.1, h.2]; rfl
end
theorem post_plain {Q : Value → Shared → Prop} {D L' : Addr} {R : Obj → Prop} (C : Cx p g s ls ((L', isNs) :: (D, R) :: mu)) (h : ∀ s' u', Cx p g s' ls ((D, R) :: mu) → Q (.ref D) (tk s' u')) : compPost (model prog w) A E none Q (.ref D) L' (.ok .next) s := by
  have h := un1 h
  obtain ⟨o, e, es, ep, hd, hk⟩ := C.at
  exact ⟨nsFind es, ⟨o, es, ep, e, hd, hk, fun _ => rfl⟩, fun h' hs => h _ (C.gone (t := s.toks) hs.extBut)⟩
theorem post_store {ls' : List Loc} {y : Str} {py : Pos} {Q : Shared → Prop} {D L' : Addr} {R : Obj → Prop} (C : Cx p g s ls ((L', isNs) :: (D, R) :: mu)) (H : En env p.L ks) (hk : (y, NameKind.local) ∈ ks) (hl : Drop y ls ls')
    (h : ∀ s' u', Cx p g s' ((y, .ref D) :: ls') ((D, R) :: mu) → Q (tk s' u')) : compPost (model prog w) A E (some (assign (.Name y py) env)) (fun _ s' => Q s') (.ref D) L' (.ok .next) s := by
  show wpAny _ A (assign (.Name y py) env (.ref D)) _ _ _
  refine (a_name (st_drop C H hk hl fun s₁ u₁ C₁ => ?_)).out
  obtain ⟨s', hs', C'⟩ : ∃ s', s' = tk s₁ u₁ ∧ Cx p g s' ((y, .ref D) :: ls') ((L', isNs) :: (D, R) :: mu) := ⟨_, rfl, C₁.tk⟩
  rw [← hs']
  have h := un1 h
  obtain ⟨o, e, es, ep, hd, hk⟩ := C'.at
  exact ⟨nsFind es, ⟨o, es, ep, e, hd, hk, fun _ => rfl⟩, fun h' hs => h _ (C'.gone (t := s'.toks) hs.extBut)⟩
end
/-- a while by a measure -/
def Turn (I : Nat → Shared → Prop) (n : Nat) (Q : Flow → Shared → Prop) (Qb : Shared → Prop) (f : Flow) (s : Shared) : Prop := match f with
  | .next | .cont => ∃ m, m < n ∧ I m s
  | .brk => Qb s
  | .ret v => Q (.ret v) s
section
variable {prog : Program} {w : World} {A : Around} {E : Value → Shared → Prop} {s : Shared} {env : Env} {pos : Pos} {test : Expr} {body orelse rest : List Stmt} {Q : Flow → Shared → Prop} {n m : Nat} {Qb : Shared → Prop} {v : Value}
theorem Turn.next {I : Nat → Shared → Prop} (h : m < n) (hI : I m s) : Turn I n Q Qb .next s := ⟨m, h, hI⟩
theorem Turn.ret {I : Nat → Shared → Prop} (h : Q (.ret v) s) : Turn I n Q Qb (.ret v) s := h
theorem while_loop (I : Nat → Shared → Prop) (n : Nat) (h : I n s)
    (turn : ∀ n s E, I n s → WP (model prog w) A (isTrue test env (eval test env)) (fun b s₂ => (b = true → WP (model prog w) A (execs body env) (Turn I n Q (fun s => Q .next s)) E s₂) ∧ (b = false → WP (model prog w) A (execs orelse env) Q E s₂)) E s) :
    CP (model prog w) A (.whileLoop test body orelse env) (LoopR (model prog w) A env Q E) s := by
  constructor
  refine codeAny_whileLoop I (fun n s hI => ?_) n h
  refine (turn n s _ hI).by fun b s₂ x => ?_
  cases b
  · exact (x.2 rfl).by fun f s₃ y => y
  · refine (x.1 rfl).by fun f s₃ y => ?_
    cases f <;> exact y
theorem k_while (h : CP (model prog w) A (.whileLoop test body orelse env) (LoopR (model prog w) A env (Then (model prog w) A rest env Q E) E) s) : WP (model prog w) A (execs (.While test body orelse pos :: rest) env) Q E s := by
  refine k_cons ⟨?_⟩
  with_reducible refine wpAny_While (codeAny_mono h.out fun r s' z => ?_)
  cases r <;> exact z
end

section
variable {prog : Program} {w : World} {A : Around} {E : Value → Shared → Prop} {p : Par} {g : Heap} {s : Shared} {ls : List Loc} {mu : List Own} {env : Env} {pos pos' apos : Pos} {value e : Expr} {lower upper : Option Expr} {Q : Value → Shared → Prop} {x : Str} {t : Tok} {l : Addr} {vs : List Value}
theorem p_some (h : WP (model prog w) A (eval e env) Q E s) : WP (model prog w) A (evalPart (some e) env) Q E s := ⟨h.out⟩
theorem p_none (h : Q .none s) : WP (model prog w) A (evalPart none env) Q E s := ⟨wpAny_pure h⟩
theorem s_slice (h : WP (model prog w) A (eval value env) (fun o s₁ => WP (model prog w) A (evalPart lower env) (fun vl s₂ => WP (model prog w) A (evalPart upper env) (fun vu s₃ =>
      ∃ (x : Str) (t : Tok) (l u : Option (Int × Tok)) (p : Par) (g : Heap) (ls : List Loc) (mu : List Own), o = .str x t ∧ vl = partValue l ∧ vu = partValue u ∧ x.length ≤ 1000 ∧ Cx p g s₃ ls mu ∧
        ∀ s' u' t', Cx p g s' ls mu → Q (.str (Txt.slice x (l.map (·.1)) (u.map (·.1))) t') (tk s' u')) E s₂) E s₁) E s)
    (ht : ∀ o r, letTemporaryGo value o r = pure ()) : WP (model prog w) A (eval (.Subscript value (.Slice lower upper none pos') pos) env) Q E s := by
  constructor
  refine wpAny_Subscript_str_slice (h.by fun o s₁ h₁ => h₁.by fun vl s₂ h₂ => h₂.by fun vu s₃ h₃ => ?_) ht
  obtain ⟨x, t, l, u, p, g, ls, mu, rfl, rfl, rfl, hx, C, hQ⟩ := h₃
  refine ⟨x, t, l, u, rfl, rfl, rfl, ?_⟩
  have C' : ∀ k, Cx p g { s₃ with heap := s₃.heap.push { cls := .type "slice", data := .fields #[partValue l, partValue u, .none] }, toks := k } ls mu := fun k => C.grow rfl rfl rfl (push_stays _ _)
  exact post_val_or_str ⟨Nat.le_trans (Txt.slice_le x _ _) (fits _ hx), fun t' k => hQ _ k t' (C' s₃.toks)⟩
theorem l_slice (h : WP (model prog w) A (eval value env) (fun o s₁ => WP (model prog w) A (evalPart lower env) (fun vl s₂ => WP (model prog w) A (evalPart upper env) (fun vu s₃ =>
      ∃ (l : Addr) (vs : List Value) (lo hi : Option Int) (p : Par) (g : Heap) (ls : List Loc) (mu : List Own), o = .ref l ∧ s₃.heap.IsList l vs.toArray ∧ IsPart vl lo ∧ IsPart vu hi ∧ vs.length ≤ 1000 ∧ Cx p g s₃ ls mu ∧
        ∀ s' u' a, Cx p g s' ls ((a, isPL (slicePick vs.toArray lo hi none).toList) :: mu) → Q (.ref a) (tk s' u')) E s₂) E s₁) E s)
    (ht : ∀ o r, letTemporaryGo value o r = pure ()) : WP (model prog w) A (eval (.Subscript value (.Slice lower upper none pos') pos) env) Q E s := by
  constructor
  refine wpAny_Subscript_list_slice (h.by fun o s₁ h₁ => h₁.by fun vl s₂ h₂ => h₂.by fun vu s₃ h₃ => ?_) ht
  obtain ⟨l, vs, lo, hi, p, g, ls, mu, rfl, hL, pl, pu, hn, C, hQ⟩ := h₃
  refine ⟨l, vs.toArray, lo, hi, rfl, hL, by rw [List.size_toArray]; exact fits _ hn, pl, pu, ?_⟩
  have C' : Cx p g { s₃ with heap := s₃.heap.push { cls := .type "slice", data := .fields #[vl, vu, .none] } } ls mu := C.grow rfl rfl rfl (push_stays _ _)
  have C'' := C'.alloc (t := s₃.toks) (o := { cls := .type "list", data := .seq (slicePick vs.toArray lo hi none) }) (P := isPL (slicePick vs.toArray lo hi none).toList) ⟨0, by simp⟩ rfl
  have e : (s₃.heap.push { cls := .type "slice", data := .fields #[vl, vu, .none] }).objs.size = s₃.heap.objs.size + 1 := Heap.size_push ..
  have := un2 hQ _ _ C''
  rw [show ({ s₃ with heap := s₃.heap.push { cls := .type "slice", data := .fields #[vl, vu, .none] } } : Shared).heap.objs.size = s₃.heap.objs.size + 1 from e] at this
  exact this
/-- xs[::-1] -/
theorem l_rev {st : Expr} (h : WP (model prog w) A (eval value env) (fun o s₁ => WP (model prog w) A (eval st env) (fun vk s₃ =>
      ∃ (l : Addr) (vs : List Value) (t : Tok) (p : Par) (g : Heap) (ls : List Loc) (mu : List Own), o = .ref l ∧ s₃.heap.IsList l vs.toArray ∧ vk = .int (-1) t ∧ vs.length ≤ 1000 ∧ Cx p g s₃ ls mu ∧
        ∀ s' u' a, Cx p g s' ls ((a, isPL vs.reverse) :: mu) → Q (.ref a) (tk s' u')) E s₁) E s)
    (ht : ∀ o r, letTemporaryGo value o r = pure ()) : WP (model prog w) A (eval (.Subscript value (.Slice none none (some st) pos') pos) env) Q E s := by
  constructor
  refine wpAny_Subscript_Slice_step (T := "list") list_getitem_lookup (h.by fun o s₁ h₁ => wpAny_Slice (wpAny_evalPart_none (wpAny_evalPart_none (wpAny_evalPart_some (h₁.by fun vk s₃ h₃ => ?_))))) ht
  obtain ⟨l, vs, t, p, g, ls, mu, rfl, hL, rfl, hn, C, hQ⟩ := h₃
  have C' : Cx p g { s₃ with heap := s₃.heap.push { cls := .type "slice", data := .fields #[.none, .none, .int (-1) t] } } ls mu := C.grow rfl rfl rfl (push_stays _ _)
  have hL' : (s₃.heap.push { cls := .type "slice", data := .fields #[.none, .none, .int (-1) t] }).IsList l vs.toArray := hL.push _
  refine ⟨Heap.IsList.typeIs (s := { s₃ with heap := _ }) hL', ?_⟩
  have hz : vs.toArray.size ≤ sizeLine := by rw [List.size_toArray]; exact fits _ hn
  refine wpAny_getItem_list_slice (s := { s₃ with heap := s₃.heap.push { cls := .type "slice", data := .fields #[.none, .none, .int (-1) t] } }) (hsz := hz) hL' (lo := none) (hi := none) (st := some (-1)) ⟨_, Heap.get?_push_size _ rfl, rfl, rfl⟩ .none .none (.int _ _) (by decide) ?_
  have e := krv_pick vs.toArray
  have C'' := C'.alloc (t := s₃.toks) (o := { cls := .type "list", data := .seq (slicePick vs.toArray none none (some (-1))) }) (P := isPL vs.reverse) ⟨0, by rw [e]⟩ rfl
  exact un2 hQ _ _ C''
theorem tr_str {n : Nat} (hx : x.length ≤ 1000) {Q : Bool → Shared → Prop} (h : Q (decide (x.length ≠ 0)) (tk s (n + 1 + 1))) : WP (model prog w) A (truthy (.str x t)) Q E (tk s n) := by
  have h1 : ¬ (x.length : Int) ≥ 2 ^ 63 := by omega
  have e : ((x.length : Int) != 0) = decide (x.length ≠ 0) := by
    by_cases q : x.length = 0
    · rw [q]; rfl
    · rw [decide_eq_true q]; simp; exact q
  rw [← e] at h
  exact ⟨P.truthy_str h1 h⟩
/-- x.lower(), of plain signs -/
theorem m_lower {o : Expr} (h : WP (model prog w) A (eval o env) (fun ov s₁ => ∃ (x : Str) (t : Tok) (s : Shared) (n : Nat), ov = .str x t ∧ x.length ≤ 1000 ∧ s₁ = tk s n ∧ ∀ t' m, Q (.str (Txt.lower x) t') (tk s m)) E s)
    (hbase : attributeBase o "lower" env (eval o env) = eval o env) (hline : (apos.endLine == pos.line) = true) : WP (model prog w) A (eval (.Call (.Attribute o "lower" apos) [] [] pos) env) Q E s := by
  constructor
  refine wpAny_Call_method_lateS hbase rfl hline (h.by fun ov s₁ h₁ => ?_)
  obtain ⟨x, t, s, n, rfl, hx, rfl, hQ⟩ := h₁
  exact SB.lower (fit_lower (by omega)) (hQ _ _)
end
/-- a text of these code points -/
abbrev sv (l : List Nat) : Str := ⟨l.toArray⟩
theorem sv_len (l : List Nat) : (sv l).length = l.length := by simp [Str.length]
theorem sv_from (l : List Nat) {k : Nat} (h : k ≤ l.length) : Txt.slice (sv l) (some (k : Int)) none = sv (l.drop k) := by
  have e := StrLaws.sliceText_from (x := sv l) (i := k) ⟨by omega, by simp; exact h⟩
  show StrLaws.sliceText _ _ _ = _
  rw [e]
  simp only [Int.toNat_natCast]
  rw [List.take_of_length_le (by simp)]
theorem sv_to_neg (l : List Nat) {m : Nat} (h0 : 0 < m) (h : m ≤ l.length) : Txt.slice (sv l) none (some (-(m : Int))) = sv (l.take (l.length - m)) := by
  have e := StrLaws.sliceText_to_neg (x := sv l) (j := -(m : Int)) (by omega) (by rw [sv_len]; omega)
  show StrLaws.sliceText _ _ _ = _
  rw [e, sv_len, List.drop_zero]
  have : (-(m : Int) + l.length - 0).toNat = l.length - m := by omega
  rw [this]
theorem sv_all (x : Str) : Txt.slice x none none = x := by
  show StrLaws.sliceText _ _ _ = _
  unfold StrLaws.sliceText
  rw [if_pos]
  rw [StrLaws.sliceIdx_none_lo, StrLaws.sliceIdx_none_hi]
  have := StrLaws.strSliceIndices_plain (a := 0) (b := x.length) (len := x.length) (by omega) (by omega)
  have e : ((0 : Nat) : Int) = 0 := rfl
  rw [e] at this
  rw [this]; simp
theorem sv_inj {l l' : List Nat} : sv l = sv l' ↔ l = l' := by simp [sv]

section
variable {prog : Program} {w : World} {A : Around} {E : Value → Shared → Prop} {p : Par} {g : Heap} {s : Shared} {ls ls' : List Loc} {mu : List Own} {env : Env} {ks : List (Str × NameKind)} {pos pos' : Pos} {value slice : Expr} {Q : Value → Shared → Prop} {x : Str} {t u : Tok} {l : Addr} {vs : List Value} {k a b c : Int}
theorem s_len {n : Nat} (hx : x.length ≤ 1000) (h : Q (.int x.length (n + 1)) (tk s (n + 1 + 1))) : WP (model prog w) A (call (.builtin "len") [.str x t]) Q E (tk s n) := by
  have h1 : ¬ (x.length : Int) ≥ 2 ^ 63 := by omega
  exact ⟨P.len_str h1 h⟩
theorem s_itemneg {c n : Nat} (h0 : k < 0) (h1 : -(x.length : Int) ≤ k) (hk : -1000 < k) (hx : x.cps[(k + x.length).toNat]? = some c) (h : Q (.str ⟨#[c]⟩ n) (tk s (n + 1)))
    (hs : subscripted slice false (.str x t) (.int k u) = operate [.str x t, .int k u] (getItem (.str x t) (.int k u)) := by with_unfolding_all rfl) :
    WP (model prog w) A (subscriptTail value slice (.str x t) (.int k u)) Q E (tk s n) := by
  have h1' : (decide (k < -(2 ^ 63 : Int)) || decide (k ≥ 2 ^ 63)) = false := by
    rw [decide_eq_false (by omega), decide_eq_false (by omega)]; rfl
  have h5 : (seqIndex? k x.length).bind (x.cps[·]?) = some c := StrLaws.at_neg h0 h1 hx
  with_reducible exact ⟨tail_any (typeIs_str _ x t) F.slot_str_getitem.lookup (P.getItem_str h1' h5 h) hs⟩
abbrev isRg3 (a b c : Int) : Obj → Prop := fun o => ∃ t u v, o = { cls := .type "range", data := .fields #[.int a t, .int b u, .int c v] }
theorem c_range3 {v : Tok} (C : Cx p g s ls mu) (hc : c ≠ 0) (hc2 : c.natAbs < 1000) {Q : Value → Shared → Prop} (h : ∀ s' u' r, Cx p g s' ls ((r, isRg3 a b c) :: mu) → Q (.ref r) (tk s' u')) : WP (model prog w) A (call (.type "range") [.int a t, .int b u, .int c v]) Q E s := by
  have h := un2 h
  have hp : Builtin.divisionGoesByPylong (b - a) c = false ∨ PySem.PylongRoom (model prog w) A s := Or.inl (PyProof.noPylong_small (by omega))
  constructor
  refine call_range_3 hc (h _ _ ?_) hp
  exact C.alloc (t := s.toks) ⟨_, _, _, rfl⟩ rfl
theorem l_range {r : Addr} {n : Nat} (hA : A.handled = none) (C : Cx p g s ls ((r, isRg3 a b c) :: mu)) (hsmall : Builtin.Range.small a b c = true) (hn : Builtin.Range.rangeSize a b c = n) (hlen : n ≤ 1000)
    {Q : Value → Shared → Prop} (h : ∀ s' u' l vs, vs.length = n → (∀ (j : Nat) v, vs[j]? = some v → ∃ t, v = Value.int (a + j * c) t) → Cx p g s' ls ((l, isL vs) :: mu) → Q (.ref l) (tk s' u')) : WP (model prog w) A (call (.type "list") [.ref r]) Q E s := by
  obtain ⟨o, e, t, u, v, rfl⟩ := C.at
  have hr : IsRange s.heap r a b c t u v := e
  constructor
  refine call_list_range hA hr hsmall hn (Nat.le_trans hlen (by decide)) fun h' tk acc' c' hk hS hI => ?_
  have hI2 := hI.2
  have hI1 := hI.1
  refine h { s with heap := h', toks := tk } tk _ acc'.toList (by simpa using hI1) (fun j v hj => hI2 j v (by simpa using hj)) ?_
  have C₁ : Cx p g { s with heap := h', toks := tk } ls mu := C.drop.grow rfl rfl rfl hk
  refine ⟨C₁.af, C₁.ns, C₁.nL, C₁.hL, fun q hq => ?_, List.pairwise_cons.mpr ⟨fun q hq => ?_, C₁.nd⟩⟩
  · rcases List.mem_cons.mp hq with rfl | hq
    · refine ⟨⟨_, hS, rfl, c', by simp⟩, stays_size C.gh, stays_size C.af.hh, ?_⟩
      obtain ⟨ol, hol⟩ := C.lobj
      exact Ne.symm (Nat.ne_of_lt (Heap.lt_size hol))
    · exact C₁.own q hq
  · obtain ⟨⟨o, h1, _⟩, _⟩ := C.drop.own q hq
    exact Ne.symm (Nat.ne_of_lt (Heap.lt_size h1))
end

section
variable {M : Model} {A : Around} {E : Value → Shared → Prop} {s : Shared} {env : Env} {pos px py pa pb pc pd tp tp' : Pos} {rest : List Stmt} {Q : Flow → Shared → Prop} {x y c d : Str} {k k' : Nat}
theorem k_asg2 {value : Expr} (h : WP M A (eval value env) (fun v s₁ => WP M A (storeName env x v) (fun _ s₂ => WP M A (storeName env y v) (fun _ s₃ => WP M A (execs rest env) Q E s₃) E s₂) E s₁) E s) :
    WP M A (execs (.Assign [.Name x px, .Name y py] value pos :: rest) env) Q E s := by
  refine k_cons ⟨?_⟩
  rw [exec_Assign]
  refine wpAny_bind (wpAny_standAt ?_)
  show wpAny M A (do let v ← eval value env; assignAll v [assign (.Name x px) env, assign (.Name y py) env]; pure Flow.next) _ _ _
  refine wpAny_bind (h.by fun v s₁ h₁ => wpAny_bind ?_)
  show wpAny M A (do holding [v] (assign (.Name x px) env v); assign (.Name y py) env v) _ _ _
  refine wpAny_bind (wpAny_holding (wpAny_assign_Name (h₁.by fun _ s₂ h₂ => wpAny_assign_Name (h₂.by fun _ s₃ h₃ => wpAny_pure (Then.next h₃)))))
theorem swap_names (hk : env.scope.kind = .function) (ha : env.kindOf x = some .local) (hb : env.kindOf y = some .local) (hl : (py.line == px.line) = true) (hne : x ≠ y) (hc : (c == ("__debug__" : Str)) = false) :
    swappedStores [.Tuple [.Name x px, .Name y py] k tp] (.Tuple [.Name c pc, .Name d pd] k' tp') env = pure (some [x, y]) := by
  have hbk : (env.blockKind != ScopeKind.function) = false := by unfold Env.blockKind; rw [hk]; rfl
  have e1 : ([x, y] : List Str).eraseDups.length = 2 := by
    have : (y == x) = false := beq_eq_false_iff_ne.mpr (Ne.symm hne)
    simp [List.eraseDups_cons, this]
  have ha' : (env.kindOf x == some NameKind.local) = true := by rw [ha]; rfl
  have hb' : (env.kindOf y == some NameKind.local) = true := by rw [hb]; rfl
  have hx : (px.line == px.line) = true := beq_self_eq_true _
  unfold swappedStores
  simp only [List.length_cons, List.length_nil, hbk, List.filterMap_cons, List.filterMap_nil, List.head?_cons, Option.map_some, Option.getD_some, Expr.pos, ha', hb', hl, hx, Bool.and_self, if_true, e1]
  have f1 : ([Expr.Name c pc, Expr.Name d pd].all (foldedForSure 8)) = false := rfl
  have f2 : ([Expr.Name c pc, Expr.Name d pd].all (constantsAlone 8)) = false := by
    show (constantsAlone 8 (Expr.Name c pc) && _) = false
    rw [show constantsAlone 8 (Expr.Name c pc) = (c == ("__debug__" : Str)) from rfl, hc]; rfl
  rw [f1, f2]; rfl
end
section
variable {prog : Program} {w : World} {A : Around} {E : Value → Shared → Prop} {p : Par} {g : Heap} {s : Shared} {ls : List Loc} {mu : List Own} {env : Env} {ks : List (Str × NameKind)} {pos px py pc pd tp tp' : Pos} {rest : List Stmt} {Q : Flow → Shared → Prop} {x y c d : Str} {k k' : Nat}
theorem k_swap {va vb : Value} (hA : A.handled = none) (C : Cx p g s ls mu) (H : En env p.L ks) (ha : (x, NameKind.local) ∈ ks) (hb : (y, NameKind.local) ∈ ks) (hl : (py.line == px.line) = true) (hne : x ≠ y) (hc : (c == ("__debug__" : Str)) = false) (hd : (d == ("__debug__" : Str)) = false)
    (hc1 : (c, NameKind.local) ∈ ks) (hc2 : (c, va) ∈ ls) (hd1 : (d, NameKind.local) ∈ ks) (hd2 : (d, vb) ∈ ls)
    (h : ∀ s' u', Cx p g s' ls mu → WP (model prog w) A (storeName env y vb) (fun _ s₂ => WP (model prog w) A (storeName env x va) (fun _ s₃ => WP (model prog w) A (execs rest env) Q E s₃) E s₂) E (Mine.tk s' u')) :
    WP (model prog w) A (execs (.Assign [.Tuple [.Name x px, .Name y py] k tp] (.Tuple [.Name c pc, .Name d pd] k' tp') pos :: rest) env) Q E s := by
  have e1 : swapsWithSole [.Tuple [.Name x px, .Name y py] k tp] (.Tuple [.Name c pc, .Name d pd] k' tp') pos.line env = pure false := rfl
  have e2 : swappedStores [.Tuple [.Name x px, .Name y py] k tp] (.Tuple [.Name c pc, .Name d pd] k' tp') env = pure (some [x, y]) := swap_names H.kind (H.ks _ ha) (H.ks _ hb) hl hne hc
  have h0 : WP (model prog w) A (eval (.Tuple [.Name c pc, .Name d pd] k' tp') env) (fun v s₁ => ∃ tp, v = .ref tp ∧ Cx p g s₁ ls ((tp, isPT [va, vb]) :: mu)) E s :=
    l_tup (e_cons (nm_local C H hc1 hc2 (e_cons (nm_local C H hd1 hd2 (e_nil ⟨Nat.le_of_ble_eq_true rfl, _, rfl, C.alloc (t := s.toks) ⟨0, rfl⟩ rfl⟩) hd)) hc))
  refine k_cons ⟨?_⟩
  with_reducible refine Assign_Tuple_swapped (names := [x, y]) (h0.by fun v s₁ h₁ => ?_) e1 e2
  obtain ⟨tp, rfl, C⟩ := h₁
  have hT : IsTup s₁.heap tp ([va, vb] : List Value).toArray := (show OAt s₁.heap tp (isPT [va, vb]) from C.at).isTuple
  show wpAny _ _ (unpackItems (.ref tp) ([va, vb] : List Value).toArray.size none) _ _ _
  with_reducible refine unpackItems_tuple hA hT fun h' he => ?_
  have C' : Cx p g { s₁ with heap := h' } ls mu := C.drop.grow rfl rfl rfl fun b o e => he b o (Nat.ne_of_lt (Heap.lt_size e)) e
  show wpAny _ _ (do holding [va] (bindName env y vb); holding [] (bindName env x va); pure ()) _ _ _
  refine wpAny_bind (wpAny_holding (wpAny_bindName ?_))
  refine (h _ s₁.toks C').by fun _ s₂ h₂ => ?_
  refine wpAny_bind (wpAny_holding (wpAny_bindName ?_))
  with_reducible exact h₂.by fun _ s₃ h₃ => wpAny_pure (Then.next h₃)
end
section
variable {prog : Program} {w : World} {A : Around} {E : Value → Shared → Prop} {s : Shared} {env : Env} {pos : Pos} {test : Expr} {body orelse rest : List Stmt} {Q : Flow → Shared → Prop} {n m : Nat} {v : Value}
/-- a while without break: the test told apart -/
theorem k_while2 (I T : Nat → Shared → Prop) (F : Shared → Prop) (n : Nat) (h : I n s)
    (tst : ∀ n s E, I n s → WP (model prog w) A (isTrue test env (eval test env)) (fun b s₂ => (b = true → T n s₂) ∧ (b = false → F s₂)) E s)
    (turn : ∀ n s E', T n s → WP (model prog w) A (execs body env) (Turn I n (Then (model prog w) A rest env Q E) (fun s => Then (model prog w) A rest env Q E .next s)) E' s)
    (fin : ∀ s, F s → WP (model prog w) A (execs rest env) Q E s) : WP (model prog w) A (execs (.While test body [] pos :: rest) env) Q E s := by
  refine k_while (while_loop I n h fun n s E' hI => (tst n s E' hI).mono fun b s₂ x => ⟨fun hb => ?_, fun hb => k_nil (Then.next (fin s₂ (x.2 hb)))⟩)
  exact turn n s₂ E' (x.1 hb)
/-- an if whose two ways meet -/
theorem k_ifjoin {body orelse : List Stmt} (J : Shared → Prop)
    (h : WP (model prog w) A (isTrue test env (eval test env)) (fun b s₂ => (b = true → WP (model prog w) A (execs body env) (fun f s => f = .next ∧ J s) E s₂) ∧ (b = false → WP (model prog w) A (execs orelse env) (fun f s => f = .next ∧ J s) E s₂)) E s)
    (fin : ∀ s u, J s → WP (model prog w) A (execs rest env) Q E (tk s u)) : WP (model prog w) A (execs (.If test body orelse pos :: rest) env) Q E s := by
  refine k_if (h.mono fun b s₂ x => ⟨fun hb => (x.1 hb).mono fun f s₃ y => ?_, fun hb => (x.2 hb).mono fun f s₃ y => ?_⟩)
  · obtain ⟨rfl, y⟩ := y; exact Then.next (fin s₃ s₃.toks y)
  · obtain ⟨rfl, y⟩ := y; exact Then.next (fin s₃ s₃.toks y)
end
/-- a def with no cells is entered; its end is hidden behind QQ -/
theorem enterQ {prog : Program} {w : World} {K : Frag} {A : Around} {n : Nat} {g : Heap} {s : Shared} {Q : Value → Shared → Prop} {E : Value → Shared → Prop} {f : Addr} {args : List Value} {binds : List Loc} {ks : List (Str × NameKind)}
    {name qual : Str} {params : Arguments} {body : List Stmt} {scope : Scope} {dV kV doc pm cdv ct oc : Value} {an od : Option Addr} {osl : Array (Option Value)}
    (fit : Fit (n + 1) A) (B : Base K g) (hg : g.StaysIn s.heap) (ho : K.lookup f = some ⟨oc, od, .func (fnOf name qual params body scope dV kV doc pm an cdv ct), osl⟩) (hcd : codeIn K cdv qual = true)
    (hbind : bindArgs (fnOf name qual params body scope dV kV doc pm an cdv ct) ⟨args, []⟩ = pure binds)
    (hlook : (binds.all fun q => scope.names.lookup q.1 == some .local) = true) (hnd : decide ((binds.map (·.1)).Nodup) = true) (hks : (ks.all fun q => scope.names.lookup q.1 == some q.2) = true)
    (hcell : (scope.names.all fun q => q.2 != .cell) = true) (hco : scope.isCoroutine = false) (hgen : scope.isGenerator = false) (hk : scope.kind = .function)
    (h : ∀ A' env L s₁ u₁ QQ EE, (∀ v s' u', Q v (tk s' u') → QQ (.ret v) (tk s' u')) → (∀ s' u', Q .none (tk s' u') → QQ .next (tk s' u')) → Fit n A' → En env L ks → Cx ⟨s, g, L⟩ g s₁ binds [] → WP (model prog w) A' (execs body env) QQ EE (tk s₁ u₁)) :
    WP (model prog w) A (call (.ref f) args) Q E s :=
  enter fit B hg ho hcd hbind hlook hnd hks hcell hco hgen hk fun A' env L s₁ u₁ fit H C => h A' env L s₁ u₁ _ _ (fun _ _ _ x => x) (fun _ _ x => x) fit H C

/-- the ends of a loop's turn -/
structure Ends (p : Par) (g : Heap) (J : Nat → Heap → List Loc → List Own → Prop) (it : Addr) (P : Nat → Obj → Prop) (i : Nat) (Q : Flow → Shared → Prop) (QQ : Flow → Shared → Prop) : Prop where
  next : ∀ {g' s ls mu ls' mu' u}, g.StaysIn g' → Cx p g' s ls mu → Pick (it, P (i + 1)) mu mu' → (∀ q ∈ ls', q ∈ ls) → J (i + 1) g' ls' mu' → QQ .next (tk s u)
  cont : ∀ {g' s ls mu ls' mu' u}, g.StaysIn g' → Cx p g' s ls mu → Pick (it, P (i + 1)) mu mu' → (∀ q ∈ ls', q ∈ ls) → J (i + 1) g' ls' mu' → QQ .cont (tk s u)
  brk : ∀ {s}, Q .next s → QQ .brk s
  ret : ∀ {v s}, Q (.ret v) s → QQ (.ret v) s
section
variable {prog : Program} {w : World} {A : Around} {E : Value → Shared → Prop} {p : Par} {g g' : Heap} {s : Shared} {ls : List Loc} {mu mu' : List Own} {it : Addr} {J : Nat → Heap → List Loc → List Own → Prop} {P : Nat → Obj → Prop} {V : Nat → Value → Prop} {i n : Nat}
  {Q : Flow → Shared → Prop} {env : Env} {target : Expr} {body orelse rest : List Stmt} {pos : Pos} {v : Value}
theorem ends_of : Ends p g J it P i Q (Turned p g J it P i Q fun s => Q .next s) :=
  ⟨fun a b c d e => Turned.next a b.tk c d e, fun a b c d e => Turned.cont a b.tk c d e, fun a => a, fun a => a⟩
theorem for_loopQ (J : Nat → Heap → List Loc → List Own → Prop) (S : Src prog w A g it n P V) (C : Cx p g s ls ((it, P 0) :: mu)) (h0 : J 0 g ls mu)
    (ht : ∀ v s' Q E, WP (model prog w) A (assign target env v) Q E s' → (∃ i g ls mu, Cx p g s' ls ((it, P i) :: mu)) → WP (model prog w) A (letOwnedTupleGo target (.ref it) v) (fun _ s'' => WP (model prog w) A (assign target env v) Q E s'') E s')
    (turn : ∀ i v g' s' u' ls' mu' E QQ, Ends p g' J it P i Q QQ → i < n → V i v → g.StaysIn g' → J i g' ls' mu' → Cx p g' s' ls' ((it, P (i + 1)) :: mu') →
      WP (model prog w) A (assign target env v) (fun _ s₂ => WP (model prog w) A (execs body env) QQ E s₂) E (tk s' u'))
    (fin : ∀ g' s' u' ls' mu' E, g.StaysIn g' → J n g' ls' mu' → Cx p g' s' ls' mu' → WP (model prog w) A (execs orelse env) Q E (tk s' u')) :
    CP (model prog w) A (.forLoop target (.ref it) body orelse env) (LoopR (model prog w) A env Q E) s :=
  for_loop S C h0 ht (fun i v g' s' ls' mu' E hi hv hg hJ C => turn i v g' s' s'.toks ls' mu' E _ ends_of hi hv hg hJ C) fun g' s' ls' mu' E a b c => fin g' s' s'.toks ls' mu' E a b c
theorem for_itemsQ {T : Type} [DecidableEq T] {knd : KeyKind prog w T} {kvs : List (T × Value)} {d : Addr} {ep : Nat} {x y : Str} {px py pt : Pos} {x1 : Nat} (J : Nat → Heap → List Loc → List Own → Prop) (hA : A.handled = none) (hD : g.DictAt knd d kvs ep)
    (C : Cx p g s ls ((it, isII d kvs.length ep 0) :: mu)) (h0 : J 0 g ls mu)
    (turn : ∀ i k v key g' s' u' ls' mu' E QQ, Ends p g' J it (isII d kvs.length ep) i Q QQ → kvs[i]? = some (k, v) → knd.is k key = true → g.StaysIn g' → J i g' ls' mu' → Cx p g' s' ls' ((it, isII d kvs.length ep (i + 1)) :: mu') →
      WP (model prog w) A (assign (.Name x px) env key) (fun _ s₂ => WP (model prog w) A (assign (.Name y py) env v) (fun _ s₃ => WP (model prog w) A (execs body env) QQ E s₃) E s₂) E (tk s' u'))
    (fin : ∀ g' s' u' ls' mu' E, g.StaysIn g' → J kvs.length g' ls' mu' → Cx p g' s' ls' mu' → WP (model prog w) A (execs orelse env) Q E (tk s' u')) :
    CP (model prog w) A (.forLoop (.Tuple [.Name x px, .Name y py] x1 pt) (.ref it) body orelse env) (LoopR (model prog w) A env Q E) s :=
  for_items J hA hD C h0 (fun i k v key g' s' u' ls' mu' E hi hk hg hJ C => turn i k v key g' s' u' ls' mu' E _ ends_of hi hk hg hJ C) fin
/-- a while: I holds ahead of each test; T and F behind it -/
theorem k_whileQ {test : Expr} {Q : Flow → Shared → Prop} (I T : Nat → Shared → Prop) (F : Shared → Prop) (n : Nat) (h : I n s)
    (tst : ∀ n s u E, I n s → WP (model prog w) A (isTrue test env (eval test env)) (fun b s₂ => (b = true → T n s₂) ∧ (b = false → F s₂)) E (tk s u))
    (turn : ∀ n s u E QQ, (∀ m s, m < n → I m s → QQ .next s) → (∀ v s, Q (.ret v) s → QQ (.ret v) s) → T n s → WP (model prog w) A (execs body env) QQ E (tk s u))
    (fin : ∀ s u, F s → WP (model prog w) A (execs rest env) Q E (tk s u)) : WP (model prog w) A (execs (.While test body [] pos :: rest) env) Q E s :=
  k_while2 I T F n h (fun n s E hI => tst n s s.toks E hI) (fun n s E hT => turn n s s.toks E _ (fun m s hm hI => Turn.next hm hI) (fun v s x => x) hT) fun s h => fin s s.toks h
end
/-- an object of a class, with one attribute of its own -/
def InstOne (h : Heap) (C : Addr) (attr : Str) (c : Addr) (v : Value) : Prop := ∃ dx es n, h.get? c = some (instObj C dx) ∧ h.get? dx = some (dictOf es n) ∧ getL attr es = some (some v) ∧ ∀ y, y ≠ attr → getL y es = some none
theorem InstOne.keeps {h h' : Heap} {C c : Addr} {attr : Str} {v : Value} (x : InstOne h C attr c v) (k : h.StaysIn h') : InstOne h' C attr c v := by
  obtain ⟨dx, es, n, a, b, e⟩ := x; exact ⟨dx, es, n, k _ _ a, k _ _ b, e⟩
theorem Cx.add {p : Par} {g : Heap} {s s' : Shared} {ls : List Loc} {mu mu' : List Own} {a : Addr} {o : Obj} {P : Obj → Prop} (C : Cx p g s ls mu) (C' : Cx p g s' ls mu') (ha : s.heap.get? a = none) (ho : s'.heap.get? a = some o) (hP : P o) (hn : ∀ q ∈ mu', a ≠ q.1) : Cx p g s' ls ((a, P) :: mu') := by
  refine ⟨C'.af, C'.ns, C'.nL, C'.hL, fun q hq => ?_, List.pairwise_cons.mpr ⟨hn, C'.nd⟩⟩
  rcases List.mem_cons.mp hq with rfl | hq
  · refine ⟨⟨o, ho, hP⟩, ?_, ?_, fun e => ?_⟩
    · cases e : g.get? a with
      | none => rfl
      | some o' => have := C.gh _ _ e; rw [ha] at this; cases this
    · show p.S.heap.get? a = none
      cases e : p.S.heap.get? a with
      | none => rfl
      | some o' => have := C.af.hh _ _ e; rw [ha] at this; cases this
    · obtain ⟨ol, hol⟩ := C.lobj
      have e : a = p.L := e
      rw [← e, ha] at hol; cases hol
  · exact C'.own q hq
theorem Cx.fresh {p : Par} {g : Heap} {s : Shared} {ls : List Loc} {mu : List Own} {a : Addr} (C : Cx p g s ls mu) (ha : s.heap.get? a = none) : ∀ q ∈ mu, a ≠ q.1 := fun q hq e => by
  obtain ⟨⟨o', h1, _⟩, _⟩ := C.own q hq
  rw [← e, ha] at h1; cases h1

section
variable {prog : Program} {w : World} {K : Frag} {A : Around} {E : Value → Shared → Prop} {p : Par} {g : Heap} {s : Shared} {ls : List Loc} {mu : List Own} {env : Env} {Q : Value → Shared → Prop} {attr : Str} {c : Addr} {v : Value}
theorem e_attr {M : Model} {n attr : Str} {np pos : Pos} (h : WP M A (eval (.Name n np) env) (fun o s₁ => WP M A (getAttr o attr true) Q E s₁) E s) : WP M A (eval (.Attribute (.Name n np) attr pos) env) Q E s := by
  with_reducible exact ⟨Attribute_name (h.by fun _ _ x => x.out)⟩
theorem g_inst {C : Addr} {r : Option Value} {n : Nat} (B : Base K p.G) (Y : Cx p g s ls mu) (I : InstOne g C attr c v) (hg : plainGet K C attr = true) (hh : hasDictIn K C = true) (ha : findIn K (.ref C) attr = some r) (hn : noGet K r = true)
    (hv : handedIn v = true) (h : Q v (tk s (n + 1))) : WP (model prog w) A (getAttr (.ref c) attr true) Q E (tk s n) := by
  have X : K.In (tk s n).heap := ((B.mono Y.af.gg).mono Y.gh).X
  obtain ⟨dx, es, m, a, b, e, _⟩ := I
  have I' : InstAt (tk s n).heap c (instObj C dx) C (some (dictOf es m)) := ⟨Y.gh _ _ a, rfl, rfl, Y.gh _ _ b⟩
  exact ⟨get_value X I' (plainGet_of hg).1 (findObj_own hh ha hn e) hv h⟩

theorem under_room {n : Nat} (fit : Fit n A) {C : Addr} {rest : List Value} {kw : List (Str × Value)} : (A.under (.builtin "type.__call__" ⟨.ref C :: rest, kw⟩)).depth < recursionLimit := by
  have := fit.d
  rw [lim_is]
  have e : (Code.builtin "type.__call__" ⟨.ref C :: rest, kw⟩).weight = 1 := by kernel_rfl
  show A.depth + (Code.builtin "type.__call__" ⟨.ref C :: rest, kw⟩).weight < 1000
  omega
/-- an object of a class whose __init__ stores its one argument -/
theorem c_new {n : Nat} {C f : Addr} {a : Value} {name qual x self : Str} {params : Arguments} {scope : Scope} {dV kV doc pm cdv ct oc : Value} {an od : Option Addr} {osl : Array (Option Value)} {p1 p2 p3 p4 : Pos}
    (fit : Fit n A) (B : Base K p.G) (Y : Cx p g s ls mu) (hm : makesIn K C = true) (hi : findIn K (.ref C) "__init__" = some (some (.ref f))) (hf : typeIn K (.ref f) = some (.type "function"))
    (ho : K.lookup f = some ⟨oc, od, .func (fnOf name qual params [.Assign [.Attribute (.Name self p1) attr p2] (.Name x p3) p4] scope dV kV doc pm an cdv ct), osl⟩) (hcd : codeIn K cdv qual = true)
    (hbind : ∀ r : Value, bindArgs (fnOf name qual params [.Assign [.Attribute (.Name self p1) attr p2] (.Name x p3) p4] scope dV kV doc pm an cdv ct) ⟨[r, a], []⟩ = pure [(self, r), (x, a)])
    (hls : scope.names.lookup self = some .local) (hlx : scope.names.lookup x = some .local) (hne : (self == x) = false) (hcell : (scope.names.all fun q => q.2 != .cell) = true) (hco : scope.isCoroutine = false) (hgen : scope.isGenerator = false) (hk : scope.kind = .function)
    (hd1 : (self == ("__debug__" : Str)) = false) (hd2 : (x == ("__debug__" : Str)) = false)
    (hs : findIn K (.ref C) "__setattr__" = some (some (.builtin "object.__setattr__"))) (hp : plainOver K C = true) (ht : takerIn K C attr = some none) (hh : hasDictIn K C = true)
    (h : ∀ g' s' u' c, Cx p g' s' ls mu → g.StaysIn g' → InstOne g' C attr c a → Q (.ref c) (tk s' u')) : WP (model prog w) A (call (.ref C) [a]) Q E s := by
  constructor
  have B' := (B.mono Y.af.gg).mono Y.gh
  have X := B'.X
  obtain ⟨pr, lo, mg, mb, T⟩ := B'.top
  have c1 : ∀ q ∈ scope.names, q.2 ≠ .cell := fun q hq e => by have := List.all_eq_true.mp hcell q hq; rw [e] at this; exact absurd this (by decide)
  obtain ⟨hp', gs, dr, tks, os⟩ := s
  refine wpAny_call (make_core (init := .ref f) (makes_of X hm) (looks_findIn X hi) (fun self => bind_fn X self hf) (.inl (by simp)) ?_)
  have hsz : (hp'.push emptyDict).objs.size = hp'.objs.size + 1 := Heap.size_push ..
  have k : hp'.StaysIn ((hp'.push emptyDict).push (instObj C hp'.objs.size)) := fun b o e => Heap.get?_push_of_some _ (Heap.get?_push_of_some _ e)
  refine codeAny_call_def (fd := fnOf name qual params [.Assign [.Attribute (.Name self p1) attr p2] (.Name x p3) p4] scope dV kV doc pm an cdv ct) (binds := [(self, .ref (hp'.objs.size + 1)), (x, a)]) (under_room fit) (k _ _ (X _ _ ho)) rfl (T.keeps k).nolimit
    (codeRec_of (X.keeps k) hcd) rfl (BindsTo.of_eq (hbind _)) c1 (fun q hq => ?_) (fun h₁ hns hk₁ => ?_) hco hgen hk
  · rcases List.mem_cons.mp hq with rfl | hq
    · exact hls
    · cases List.mem_singleton.mp hq; exact hlx
  generalize hL : ((hp'.push emptyDict).push (instObj C hp'.objs.size)).objs.size = L at hns ⊢
  have hL' : L = hp'.objs.size + 2 := by rw [← hL, Heap.size_push, hsz]
  have up : hp'.StaysIn h₁ := fun b o e => hk₁ _ _ (k _ _ e)
  have n1 : h₁.get? (hp'.objs.size + 1) = some (instObj C hp'.objs.size) := hk₁ _ _ (by rw [← hsz]; exact Heap.get?_push_size _ rfl)
  have n2 : h₁.get? hp'.objs.size = some emptyDict := hk₁ _ _ (Heap.get?_push_of_some _ (Heap.get?_push_size _ rfl))
  have m1 : hp'.get? (hp'.objs.size + 1) = none := by
    cases e : hp'.get? (hp'.objs.size + 1) with
    | none => rfl
    | some o => exact absurd (Heap.lt_size e) (Nat.not_lt.mpr (Nat.le_succ _))
  have F : Fr hp' L h₁ (fun y => ([(self, Value.ref (hp'.objs.size + 1)), (x, a)] : List (Str × Value)).reverse.lookup y) := ⟨hns, up, by rw [hL']; exact Nat.le_add_right _ _⟩
  have N : News hp' L h₁ [(hp'.objs.size + 1, instObj C hp'.objs.size), (hp'.objs.size, emptyDict)] := fun q hq => by
    rcases List.mem_cons.mp hq with rfl | hq
    · exact ⟨n1, by rw [hL']; exact Nat.ne_of_lt (Nat.lt_succ_self _), m1⟩
    · cases List.mem_singleton.mp hq; exact ⟨n2, by rw [hL']; exact Nat.ne_of_lt (Nat.lt_add_of_pos_right (by decide)), get_size _⟩
  have lx : (([(self, Value.ref (hp'.objs.size + 1)), (x, a)] : List (Str × Value)).reverse.lookup x) = some a := by simp
  have lself : (([(self, Value.ref (hp'.objs.size + 1)), (x, a)] : List (Str × Value)).reverse.lookup self) = some (.ref (hp'.objs.size + 1)) := by
    simp [List.lookup_cons, hne]
  refine wpAny_execs_cons (plainObj_wpAny_Assign_Attribute (wpAny_Name (wpAny_loadName_local hk hlx hns lx ?_) hd2))
  refine wpAny_Name (wpAny_loadName_local hk hls hns lself ?_) hd1
  refine set_dict (n := 0) F X N (InstAt.of_news N (.head _) (.tail _ (.head _))) rfl hs hp ht hh rfl rfl (.tail (Nat.succ_ne_self _) (.head fun _ h => nomatch h)) (by show 1 ≤ 1000; decide) fun h' F' N' => ?_
  refine wpAny_execs_nil ?_
  refine ⟨rfl, ?_⟩
  have Y₁ : Cx p g { heap := h', gens := gs, drawn := dr, toks := tks, os := os } ls mu := Y.grow rfl rfl rfl F'.keep
  have Y₂ := Y.add (P := fun o => ∃ es n, o = dictOf es n ∧ getL attr es = some (some a) ∧ ∀ y, y ≠ attr → getL y es = some none) Y₁ (get_size _) (N' _ (.tail _ (.head _))).1 ⟨_, _, rfl, by show getL attr [⟨_, .str attr _, a⟩] = _; simp [getL, Value.isStr], fun y hy => by
    show getL y [⟨_, .str attr _, a⟩] = _
    have : (attr == y) = false := beq_eq_false_iff_ne.mpr (Ne.symm hy)
    simp [getL, Value.isStr, this, DictEntry.refKey]⟩ (Y.fresh (get_size _))
  have Y₃ := Y.add (a := hp'.objs.size + 1) (P := fun o => o = instObj C hp'.objs.size) Y₂ m1 (N' _ (.head _)).1 rfl (fun q hq => by
    rcases List.mem_cons.mp hq with rfl | hq
    · exact Nat.succ_ne_self _
    · exact Y.fresh m1 q hq)
  obtain ⟨g₁, Y₄, k₁, o₁, e₁, rfl⟩ := Y₃.freeze
  obtain ⟨g₂, Y₅, k₂, o₂, e₂, es, m, rfl, e₃⟩ := Y₄.freeze
  exact h g₂ _ _ _ Y₅ (stays_trans k₁ k₂) ⟨_, _, _, k₂ _ _ e₁, e₂, e₃⟩
/-- a method of such an object, called -/
theorem m_inst {G : Heap} {o e : Expr} {rest : List Expr} {meth : Str} {apos pos : Pos} {C f : Addr} (B : Base K G) (hg : plainGet K C meth = true) (hf : findIn K (.ref C) meth = some (some (.ref f))) (ht : typeIn K (.ref f) = some (.type "function")) (hk : keepIn K (.ref f) = true)
    (h : WP (model prog w) A (eval o env) (fun ov s₁ => ∃ (c : Addr) (p : Par) (g : Heap) (ls : List Loc) (mu : List Own) (attr : Str) (v : Value), ov = .ref c ∧ p.G = G ∧ Cx p g s₁ ls mu ∧ InstOne g C attr c v ∧ meth ≠ attr ∧
      WP (model prog w) A (spliced (backTo pos (starEach (e :: rest) env))) (fun vs s₂ => (∃ (p : Par) (g : Heap) (ls : List Loc) (mu : List Own), p.G = G ∧ Cx p g s₂ ls mu) ∧ WP (model prog w) A (call (.ref f) (.ref c :: vs)) Q E s₂) E s₁) E s)
    (hbase : attributeBase o meth env (eval o env) = eval o env)
    (hfew : ((backTo pos (starEach (e :: rest) env)).all (fun x => !x.1) && (backToKw pos (keywordEach [] env)).all (fun x => x.1.isSome)
      && decide ((e :: rest).length + ([] : List Keyword).length + (if ([] : List Keyword).isEmpty then 0 else 1) < 30)) = true)
    (hline : (apos.endLine == pos.line) = true)
    (he : starEach (e :: rest) env = (false, eval e env) :: starEach rest env) (hplain : (backTo pos (starEach rest env)).any (·.1) = false) :
    WP (model prog w) A (eval (.Call (.Attribute o meth apos) (e :: rest) [] pos) env) Q E s := by
  constructor
  rw [arm_eval_Call, hbase]
  refine wpAny_bind (h.by fun ov s₁ h₁ => ?_)
  obtain ⟨c, p, g, ls, mu, attr, v, rfl, rfl, Y, ⟨dx, es, m, a, b, _, hn⟩, hne, hc⟩ := h₁
  refine wpAny_bind (wpAny_standAt ?_)
  have X : K.In s₁.heap := ((B.mono Y.af.gg).mono Y.gh).X
  have I' : InstAt s₁.heap c (instObj C dx) C (some (dictOf es m)) := ⟨Y.gh _ _ a, rfl, rfl, Y.gh _ _ b⟩
  have hform : methodCallForm ((e :: rest).length + ([] : List Keyword).length) (backTo pos (starEach (e :: rest) env)) (backToKw pos (keywordEach [] env)) = true := hfew
  have hpos : methodCallPos true o env apos pos = pure pos := by unfold methodCallPos; simp [hline]
  unfold methodCall
  rw [hform]
  refine wpAny_bind (wpAny_holding (method_fn X I' (plainGet_of hg).1 (plainGet_of hg).2 hf ht (by show (lookIn meth (dictOf es m)).map _ = _; rw [lookIn_dict, hn _ hne]; rfl) ?_))
  refine wpAny_bind (wpAny_of_eq hpos ?_)
  refine callWith_K (h₀ := p.G) (first := [.ref c]) B.X hk ?_ he hplain
  exact hc.by fun vs s₂ x => ⟨by obtain ⟨⟨p, g, ls, mu, q, C⟩, _⟩ := x; exact (((q ▸ B).mono C.af.gg).mono C.gh).X, x.2.out⟩
end
/-- the smaller, cheap to reckon -/
def mi (a b : Nat) : Nat := cond (Nat.ble a b) a b
def lo2 (c : Nat) : Nat := cond (Nat.ble 97 c) c (c + 32)
def cost (a b : Nat) : Nat := cond (Nat.beq a b) 0 (cond (Nat.beq (lo2 a) (lo2 b)) 1 2)
/-- the same, cheap: along the two lists -/
def fast (ch : Nat) : List Nat → List Nat → Nat → Nat → Nat → (List Nat → List Nat) → (Nat → Nat → List Nat → Nat) → Nat
  | x :: a, d :: row, dist, res, mn, out, k => (fun r => fast ch a row d r (mi r mn) (fun l => out (r :: l)) k) (mi (mi res d + 2) (dist + cost ch x))
  | _, _, _, res, mn, out, k => k res mn (out [])
def ofast (a : List Nat) (c : Nat) : List Nat → Nat → List Nat → Nat → Nat
  | [], _, _, res => res
  | ch :: bs, i, row, _ => fast ch a row (i * 2) (i * 2) 9223372036854775807 (fun l => l) fun res mn row' => cond (Nat.ble mn c) (ofast a c bs (i + 1) row' res) (c + 1)
def cpl : List Nat → List Nat → Nat
  | x :: xs, y :: ys => cond (Nat.beq x y) (cpl xs ys + 1) 0
  | _, _ => 0
def core2 (a b : List Nat) (c : Nat) : Nat := cond (Nat.ble ((b.length - a.length) * 2) c) (ofast a c b 0 (a.zipIdx.map fun x => 2 + x.2 * 2) 0) (c + 1)
def core (a b : List Nat) (c : Nat) : Nat := cond (a.isEmpty || b.isEmpty) (2 * (a.length + b.length)) (cond (Nat.ble a.length b.length) (core2 a b c) (core2 b a c))
def cut2 (a b : List Nat) (c : Nat) : Nat := core (a.take (a.length - cpl a.reverse b.reverse)) (b.take (b.length - cpl a.reverse b.reverse)) c
def lev (a b : List Nat) (c : Nat) : Nat := cut2 (a.drop (cpl a b)) (b.drop (cpl a b)) c

theorem mi_is (a b : Nat) : mi a b = min a b := by
  unfold mi
  cases e : Nat.ble a b with
  | true => have := Nat.le_of_ble_eq_true e; rw [cond_true]; omega
  | false =>
    have : ¬ a ≤ b := fun q => by rw [Nat.ble_eq_true_of_le q] at e; cases e
    rw [cond_false]; omega
theorem fast_step {ch : Nat} {a row : List Nat} {i d x : Nat} (hi : a[i]? = some x) (hd : row[i]? = some d) (dist res mn : Nat) (k : Nat → Nat → List Nat → Nat) :
    fast ch (a.drop i) (row.drop i) dist res mn (fun l => row.take i ++ l) k = fast ch (a.drop (i + 1)) ((row.set i (mi (mi res d + 2) (dist + cost ch x))).drop (i + 1)) d (mi (mi res d + 2) (dist + cost ch x)) (mi (mi (mi res d + 2) (dist + cost ch x)) mn)
      (fun l => (row.set i (mi (mi res d + 2) (dist + cost ch x))).take (i + 1) ++ l) k := by
  obtain ⟨h1, rfl⟩ := List.getElem?_eq_some_iff.mp hi
  obtain ⟨h2, rfl⟩ := List.getElem?_eq_some_iff.mp hd
  rw [List.drop_eq_getElem_cons h1, List.drop_eq_getElem_cons h2, fast]
  dsimp only
  generalize mi (mi res row[i] + 2) (dist + cost ch a[i]) = r
  have e1 : (row.set i r).drop (i + 1) = row.drop (i + 1) := by rw [List.drop_set]; simp
  have e2 : (row.set i r).take (i + 1) = row.take i ++ [r] := by
    rw [List.take_add_one]
    simp only [List.take_set, List.getElem?_set_self h2, Option.toList_some]
    rw [List.set_eq_of_length_le (by rw [List.length_take]; omega)]
  rw [e1, e2]
  congr 1
  funext l
  simp
theorem fast_end {ch : Nat} {a row : List Nat} {n : Nat} (ha : a.length = n) (hr : row.length = n) (dist res mn : Nat) (k : Nat → Nat → List Nat → Nat) : fast ch (a.drop n) (row.drop n) dist res mn (fun l => row.take n ++ l) k = k res mn row := by
  subst ha
  rw [List.drop_length, ← hr, List.drop_length, fast]
  · simp
  · simp
/-- a frame's cells: their names and places, their objects -/
def cellAdr : Nat → List (Str × Option Value) → List (Str × Addr)
  | _, [] => []
  | n, q :: r => (q.1, n) :: cellAdr (n + 1) r
def cellOwn : Nat → List (Str × Option Value) → List Own
  | _, [] => []
  | n, q :: r => (n, isCell q.2) :: cellOwn (n + 1) r
def CellsAt (env : Env) (cl : List (Str × Addr)) : Prop := ∀ q ∈ cl, env.kindOf q.1 = some .cell ∧ env.cells.lookup q.1 = some q.2
theorem cellAdr_names : ∀ (n : Nat) (cs : List (Str × Option Value)), (cellAdr n cs).map (·.1) = cs.map (·.1)
  | _, [] => rfl
  | n, q :: r => by simp only [cellAdr, List.map_cons, cellAdr_names (n + 1) r]
theorem cellOwn_from : ∀ {n : Nat} {cs : List (Str × Option Value)} {q : Own}, q ∈ cellOwn n cs → n ≤ q.1 ∧ ∃ x v, (x, v) ∈ cs ∧ (x, q.1) ∈ cellAdr n cs ∧ q.2 = isCell v
  | _, [], _, h => nomatch h
  | n, y :: r, q, h => by
    rcases List.mem_cons.mp h with rfl | h
    · exact ⟨Nat.le_refl _, y.1, y.2, .head _, .head _, rfl⟩
    · obtain ⟨a, x, v, b, c, d⟩ := cellOwn_from h
      exact ⟨Nat.le_of_succ_le a, x, v, .tail _ b, .tail _ c, d⟩
theorem cellOwn_nd : ∀ (n : Nat) (cs : List (Str × Option Value)), (cellOwn n cs).Pairwise (fun a b => a.1 ≠ b.1)
  | _, [] => .nil
  | n, _ :: r => List.pairwise_cons.mpr ⟨fun q hq => Nat.ne_of_lt (cellOwn_from hq).1, cellOwn_nd (n + 1) r⟩
theorem cellsFrom_is : ∀ (names : List (Str × NameKind)) (b : Str → Option Value) (n : Nat) (acc : List (Str × Addr)),
    cellsFrom n names acc = (cellAdr n ((names.filter fun q => q.2 == .cell).map fun q => (q.1, b q.1))).reverse ++ acc
  | [], _, _, _ => rfl
  | (x, k) :: r, b, n, acc => by
    unfold cellsFrom
    by_cases hk : (k == NameKind.cell) = true
    · rw [if_pos hk, cellsFrom_is r b, List.filter_cons_of_pos (p := fun q : Str × NameKind => q.2 == .cell) (a := (x, k)) hk]
      simp only [List.map_cons, cellAdr, List.reverse_cons, List.append_assoc, List.singleton_append]
    · rw [if_neg hk, cellsFrom_is r b, List.filter_cons_of_neg (p := fun q : Str × NameKind => q.2 == .cell) (a := (x, k)) hk]
theorem bindL_skip {kindOf : Str → Option NameKind} {x : Str} : ∀ {binds : List Loc} {m : Str → Option Value}, x ∉ binds.map (·.1) → bindL kindOf binds m x = m x
  | [], _, _ => rfl
  | (y, v) :: r, m, h => by
    have h1 : x ≠ y := fun e => h (by rw [e]; exact .head _)
    have h2 : x ∉ r.map (·.1) := fun e => h (.tail _ e)
    unfold bindL
    rw [bindL_skip h2]
    split
    · exact if_neg h1
    · rfl
theorem bindL_is {kindOf : Str → Option NameKind} : ∀ {binds : List Loc} {m : Str → Option Value} {q : Loc}, (binds.map (·.1)).Nodup → q ∈ binds → kindOf q.1 = some .local → bindL kindOf binds m q.1 = some q.2
  | (y, v) :: r, m, q, hn, hq, hk => by
    rw [List.map_cons, List.nodup_cons] at hn
    unfold bindL
    rcases List.mem_cons.mp hq with rfl | hq
    · rw [bindL_skip hn.1, if_pos hk, if_pos rfl]
    · exact bindL_is hn.2 hq hk
theorem bindC_is {kindOf : Str → Option NameKind} {x : Str} (hk : kindOf x = some .cell) : ∀ {binds : List Loc} {m : Str → Option Value}, (binds.map (·.1)).Nodup → bindC kindOf binds m x = (match binds.lookup x with | some v => some v | none => m x)
  | [], _, _ => rfl
  | (y, v) :: r, m, hn => by
    rw [List.map_cons, List.nodup_cons] at hn
    unfold bindC
    rw [bindC_is hk hn.2, List.lookup_cons]
    cases e : x == y with
    | true =>
      have e := eq_of_beq e
      subst e
      rw [if_neg (by rw [hk]; decide)]
      have : r.lookup x = none := by
        rw [List.lookup_eq_none_iff]
        intro q hq
        have : x ≠ q.1 := fun e => hn.1 (List.mem_map.mpr ⟨q, hq, e.symm⟩)
        simpa using this
      simp [this]
    | false =>
      have e := beq_eq_false_iff_ne.mp e
      cases r.lookup x with
      | some _ => rfl
      | none =>
        dsimp only
        split
        · rfl
        · exact if_neg e

/-- a def with cells is entered; its end is hidden behind QQ -/
theorem enterC {prog : Program} {w : World} {K : Frag} {A : Around} {n : Nat} {g : Heap} {s : Shared} {Q : Value → Shared → Prop} {E : Value → Shared → Prop} {f : Addr} {args : List Value} {binds bl : List Loc} {cs : List (Str × Option Value)} {ks : List (Str × NameKind)}
    {name qual : Str} {params : Arguments} {body : List Stmt} {scope : Scope} {dV kV doc pm cdv ct oc : Value} {an od : Option Addr} {osl : Array (Option Value)}
    (fit : Fit (n + 1) A) (B : Base K g) (hg : g.StaysIn s.heap) (ho : K.lookup f = some ⟨oc, od, .func (fnOf name qual params body scope dV kV doc pm an cdv ct), osl⟩) (hcd : codeIn K cdv qual = true)
    (hbind : bindArgs (fnOf name qual params body scope dV kV doc pm an cdv ct) ⟨args, []⟩ = pure binds)
    (hbl : bl = binds.filter fun q => scope.names.lookup q.1 == some .local) (hcs : cs = (scope.names.filter fun q => q.2 == .cell).map fun q => (q.1, binds.lookup q.1))
    (hkind : (binds.all fun q => scope.names.lookup q.1 == some .local || scope.names.lookup q.1 == some .cell) = true) (hnd : decide ((binds.map (·.1)).Nodup) = true)
    (hcn : decide (((scope.names.filter fun q => q.2 == .cell).map (·.1)).Nodup) = true) (hcl : (scope.names.all fun q => q.2 != .cell || scope.names.lookup q.1 == some .cell) = true)
    (hks : (ks.all fun q => scope.names.lookup q.1 == some q.2) = true) (hco : scope.isCoroutine = false) (hgen : scope.isGenerator = false) (hk : scope.kind = .function)
    (h : ∀ A' env L s₁ u₁ QQ EE, (∀ v s' u', Q v (tk s' u') → QQ (.ret v) (tk s' u')) → (∀ s' u', Q .none (tk s' u') → QQ .next (tk s' u')) → Fit n A' → En env L ks → CellsAt env (cellAdr (L + 1) cs) → Cx ⟨s, g, L⟩ g s₁ bl (cellOwn (L + 1) cs) →
      WP (model prog w) A' (execs body env) QQ EE (tk s₁ u₁)) :
    WP (model prog w) A (call (.ref f) args) Q E s := by
  have B' := B.mono hg
  constructor
  obtain ⟨pr, l, mg, mb, T⟩ := B'.top
  have hnd := of_decide_eq_true hnd
  have hcn := of_decide_eq_true hcn
  have c3 : ∀ q ∈ ks, scope.names.lookup q.1 = some q.2 := fun q hq => by have := List.all_eq_true.mp hks q hq; simpa using this
  have c4 : ∀ q ∈ scope.names, q.2 = .cell → scope.names.lookup q.1 = some .cell := fun q hq e => by have := List.all_eq_true.mp hcl q hq; rw [e] at this; simpa using this
  have hcsn : cs.map (·.1) = (scope.names.filter fun q => q.2 == .cell).map (·.1) := by rw [hcs, List.map_map]; rfl
  have adr : ∀ m, cellsFrom m scope.names [] = (cellAdr m cs).reverse := fun m => by rw [cellsFrom_is _ (fun x => binds.lookup x), List.append_nil, hcs]
  have look : ∀ m q, q ∈ cellAdr m cs → (cellsFrom m scope.names []).lookup q.1 = some q.2 := fun m q hq => by
    rw [adr]
    refine lookup_nodup ?_ (List.mem_reverse.mpr hq)
    rw [List.map_reverse, cellAdr_names, hcsn]
    exact (List.reverse_perm _).nodup_iff.mpr hcn
  have inCs : ∀ x, x ∈ cs.map (·.1) → scope.names.lookup x = some .cell := fun x hx => by
    rw [hcsn] at hx
    obtain ⟨q, hq, rfl⟩ := List.mem_map.mp hx
    obtain ⟨h1, h2⟩ := List.mem_filter.mp hq
    exact c4 q h1 (eq_of_beq h2)
  refine wpAny_call (codeAny_call_cells (fd := fnOf name qual params body scope dV kV doc pm an cdv ct) (binds := binds) fit.room (B'.X _ _ ho) rfl T.nolimit (codeRec_of B'.X hcd) rfl hbind rfl (fun q hq => ?_) (fun s₁ x => ?_) hco hgen hk)
  · have := List.all_eq_true.mp hkind q hq
    rcases Bool.or_eq_true_iff.mp this with e | e
    · exact .inl (by simpa using e)
    · have e : scope.names.lookup q.1 = some .cell := by simpa using e
      refine .inr ⟨e, ?_⟩
      have hm : q.1 ∈ cs.map (·.1) := by
        rw [hcsn]
        refine List.mem_map.mpr ⟨(q.1, .cell), List.mem_filter.mpr ⟨?_, rfl⟩, rfl⟩
        exact mem_of_lookup e
      rw [← cellAdr_names (s.heap.objs.size + 1)] at hm
      obtain ⟨r, hr, e'⟩ := List.mem_map.mp hm
      have := look _ r hr
      rw [e'] at this
      show ((cellsFrom (s.heap.objs.size + 1) scope.names []).lookup q.1).isSome = true
      rw [this]; rfl
  obtain ⟨h₁, tk₁, rfl, up⟩ := x.done
  have key : Cx ⟨s, g, s.heap.objs.size⟩ g { s with heap := h₁, toks := tk₁ } bl (cellOwn (s.heap.objs.size + 1) cs) := by
    refine ⟨⟨rfl, rfl, rfl, stays_refl g, fun b o e => up _ _ (hg _ _ e), up, fun _ _ _ e => e⟩, ⟨_, x.toInCall.ns, fun q hq => ?_⟩, stays_size hg, get_size _, fun q hq => ?_, cellOwn_nd _ _⟩
    · rw [hbl] at hq
      obtain ⟨h1, h2⟩ := List.mem_filter.mp hq
      exact bindL_is (kindOf := fun z => scope.names.lookup z) hnd h1 (by simpa using h2)
    · obtain ⟨h1, y, v, h2, h3, h4⟩ := cellOwn_from hq
      have big : ∀ {a : Addr}, s.heap.objs.size + 1 ≤ a → s.heap.get? a = none := fun {a} ha => by
        cases e : s.heap.get? a with
        | none => rfl
        | some o => exact absurd (Heap.lt_size e) (Nat.not_lt.mpr (Nat.le_of_succ_le ha))
      obtain ⟨o, e1, e2⟩ := x.cell y q.1 (look _ (y, q.1) h3)
      refine ⟨⟨o, e1, ?_⟩, ?_, big h1, Nat.ne_of_gt h1⟩
      · rw [h4]
        show o.data = _
        rw [e2]
        refine congrArg Data.cell ?_
        have hy : scope.names.lookup y = some .cell := inCs y (List.mem_map.mpr ⟨_, h2, rfl⟩)
        have := bindC_is (kindOf := fun z => scope.names.lookup z) hy (binds := binds) (m := fun _ => none) hnd
        refine Eq.trans this ?_
        rw [hcs] at h2
        obtain ⟨r, _, e'⟩ := List.mem_map.mp h2
        obtain ⟨rfl, rfl⟩ := Prod.mk.inj e'
        cases binds.lookup r.1 <;> rfl
      · cases e : g.get? q.1 with
        | none => rfl
        | some o => have := hg _ _ e; rw [big h1] at this; cases this
  have hw := h _ (callEnvC (fnOf name qual params body scope dV kV doc pm an cdv ct) s.heap.objs.size f) s.heap.objs.size { s with heap := h₁, toks := tk₁ } tk₁ (fun fl s' => Q (match fl with | .ret v => v | _ => .none) s') (fun _ _ => False) (fun _ _ _ x => x) (fun _ _ x => x)
    (fit.deeper (callEnvC (fnOf name qual params body scope dV kV doc pm an cdv ct) s.heap.objs.size f)) ⟨hk, rfl, rfl, rfl, c3⟩ (fun q hq => ⟨inCs q.1 (by rw [← cellAdr_names (s.heap.objs.size + 1)]; exact List.mem_map.mpr ⟨q, hq, rfl⟩), look _ q hq⟩) key
  with_reducible refine wpAny_mono hw.out (fun _ _ q => ?_) fun _ _ e => e.elim
  exact q
/-! the tokens never fall -/
theorem runs_toks {M : Model} {Γ : Ctx} {p : Pos} {t : Sem PySem.Fin} {fs : List Frame} {s s' : Shared} {e : End} (h : Runs M Γ p t fs s e s') : s.toks ≤ s'.toks := by
  induction h <;> first | exact Nat.le_refl _ | assumption | (exact Nat.le_trans ‹_› ‹_›) | (exact Nat.le_of_succ_le ‹_›)
theorem wakes_toks {M : Model} {Γ : Ctx} {p : Pos} {g : Nat} {r : Resume} {s s' : Shared} {res : GenResult} (h : Wakes M Γ p g r s res s') : s.toks ≤ s'.toks := by
  unfold Wakes at h
  repeat' split at h
  all_goals first
    | exact h.elim
    | (obtain ⟨e₁, s₁, hr, _, _, e⟩ := h; rw [e]; have := runs_toks hr; exact this)
    | (obtain ⟨_, rfl⟩ := h; exact Nat.le_refl _)
theorem wp_toks {α : Type} {M : Model} {Γ : Ctx} {E : Value → Pos → Shared → Prop} {n : Nat} : ∀ (t : Sem α) (Q : α → Pos → Shared → Prop) (p : Pos) (s : Shared), n ≤ s.toks →
    Sem.wp M Γ t (fun a p' s' => n ≤ s'.toks → Q a p' s') E p s → Sem.wp M Γ t Q E p s := by
  intro t Q p s hn
  induction t generalizing p s with
  | pure x => exact fun h => h hn
  | raise v => exact id
  | unsupported | finish | yield | fork | await | register => exact id
  | fresh k ih => exact ih _ _ _ (Nat.le_succ_of_le hn)
  | rule _ k ih | «at» _ k ih | alloc _ k ih | loadIfAlive _ k ih | point _ k ih | ask k ih | os _ _ k ih | handled _ k ih | newGen _ k ih | stack k ih | thread k ih => exact ih _ _ _ hn
  | load a _ k ih | genState a k ih => exact fun ⟨o, ho, h⟩ => ⟨o, ho, ih _ _ _ hn h⟩
  | update a _ f k ih | choose _ _ k ih => exact fun ⟨ha, h⟩ => ⟨ha, ih _ _ _ hn h⟩
  | call c h g l k ih => exact fun ⟨r, s', hr, hR⟩ => ⟨r, s', hr, ih _ _ _ (Nat.le_trans hn (runs_toks hr)) hR⟩
  | resume g r l k ih => exact fun ⟨res, s', hw, h⟩ => ⟨res, s', hw, ih _ _ _ (Nat.le_trans hn (wakes_toks hw)) h⟩
/-- tokens drawn are drawn for good -/
theorem WP.ge {α : Type} {M : Model} {A : Around} {E : Value → Shared → Prop} {s : Shared} {t : Sem α} {Q : α → Shared → Prop} {n : Nat} (hn : n ≤ s.toks) (h : WP M A t (fun a s' => n ≤ s'.toks → Q a s') E s) : WP M A t Q E s :=
  ⟨fun Γ p hΓ => wp_toks _ _ _ _ hn (h.out Γ p hΓ)⟩

section
variable {K : Frag} {prog : Program} {w : World} {M : Model} {A : Around} {E : Value → Shared → Prop} {p : Par} {g : Heap} {s : Shared} {ls ls' : List Loc} {mu mu' : List Own} {env : Env} {ks : List (Str × NameKind)} {x : Str} {pos : Pos} {v : Value} {Q : Value → Shared → Prop} {c : Addr} {n : Nat} {cl : List (Str × Addr)}
theorem CellsAt.at {env : Env} {cl : List (Str × Addr)} {x : Str} {c : Addr} (Z : CellsAt env cl) (hc : (x, c) ∈ cl) : env.kindOf x = some .cell ∧ env.cells.lookup x = some c := Z (x, c) hc
theorem nm_cellZ (C : Cx p g s ls mu) (H : En env p.L ks) (Z : CellsAt env cl) (hc : (x, c) ∈ cl) (hv : (c, isCell (some v)) ∈ mu) (h : Q v (tk s n))
    (hd : (x == ("__debug__" : Str)) = false := by kernel_rfl) : WP M A (eval (.Name x pos) env) Q E (tk s n) := by
  obtain ⟨o, ho, hP⟩ := (C.tk (t := n)).owns hv
  have q : (tk s n).heap.IsCell c (some v) := ⟨o, ho, hP⟩
  with_reducible exact ⟨wpAny_Name (wpAny_loadName_cell H.kind (Z.at hc).1 (Z.at hc).2 q h) hd⟩
theorem st_cellZ {v₀ : Option Value} (C : Cx p g s ls mu) (H : En env p.L ks) (Z : CellsAt env cl) (hc : (x, c) ∈ cl) (hv : Pick (c, isCell v₀) mu mu') {Q : Unit → Shared → Prop}
    (h : ∀ s' u', Cx p g s' ls ((c, isCell (some v)) :: mu') → Q () (tk s' u')) : WP M A (storeName env x v) Q E s := by
  have h := un1 h
  constructor
  have C' := C.pick hv
  obtain ⟨o, ho, hP⟩ := C'.at
  have q : s.heap.IsCell c v₀ := ⟨o, ho, hP⟩
  with_reducible refine wpAny_storeName_cell H.kind (Z.at hc).1 (Z.at hc).2 q fun h' hi hs => h _ ?_
  obtain ⟨o', ho', hd'⟩ := hi
  exact C'.turn hs.extBut ho' hd'
end
abbrev sV (q : Str × Tok) : Value := .str q.1 q.2
abbrev iV (q : Int × Tok) : Value := .int q.1 q.2
section
variable {prog : Program} {w : World} {A : Around} {E : Value → Shared → Prop} {p : Par} {g : Heap} {s : Shared} {ls : List Loc} {mu mu' : List Own} {env : Env} {pos apos : Pos} {Q : Value → Shared → Prop} {l b : Addr} {vs ws : List Value} {v : Value} {x y : Str} {t u : Tok} {n : Nat}
/-- o.name(e, ..) of a builtin kind -/
theorem m_args {o e : Expr} {rest : List Expr} {name : Str} {T id : String} (pa : PlainAttrs T) (slot : Slot T name id) (hty : typeOf (.builtin id) = pure (.type "method_descriptor"))
    (h : WP (model prog w) A (eval o env) (fun ov s₁ => s₁.TypeIs ov T ∧ (∀ a, ov = .ref a → ∃ ob, s₁.heap.get? a = some ob ∧ ob.dict = none) ∧
      WP (model prog w) A (spliced (backTo pos (starEach (e :: rest) env))) (fun vs s₂ => WP (model prog w) A (call (.builtin id) (ov :: vs)) Q E s₂) E s₁) E s)
    (hbase : attributeBase o name env (eval o env) = eval o env)
    (hfew : ((backTo pos (starEach (e :: rest) env)).all (fun x => !x.1) && (backToKw pos (keywordEach [] env)).all (fun x => x.1.isSome)
      && decide ((e :: rest).length + ([] : List Keyword).length + (if ([] : List Keyword).isEmpty then 0 else 1) < 30)) = true)
    (hline : (apos.endLine == pos.line) = true)
    (he : starEach (e :: rest) env = (false, eval e env) :: starEach rest env) (hplain : (backTo pos (starEach rest env)).any (·.1) = false) :
    WP (model prog w) A (eval (.Call (.Attribute o name apos) (e :: rest) [] pos) env) Q E s := by
  constructor
  refine wpAny_Call_method hbase hfew hline pa slot hty (h.by fun ov s₁ h₁ => ⟨h₁.1, h₁.2.1, ?_⟩)
  have h₂ := h₁.2.2.out
  rw [he] at h₂ ⊢
  refine Calls.callWith_builtin (by show (false || (backTo pos (starEach rest env)).any (·.1)) = false; rw [hplain]; rfl) (Calls.evalArgs_plain ?_)
  exact wpAny_mono h₂ (fun vs s₂ h₃ => h₃.out) fun _ _ e => e
theorem Cx.typed {P : Obj → Prop} {T : String} {a : Addr} (x : OAt s.heap a P) (h : ∀ o, P o → o.cls = .type T ∧ o.dict = none) : s.TypeIs (.ref a) T ∧ ∀ b, Value.ref a = .ref b → ∃ ob, s.heap.get? b = some ob ∧ ob.dict = none := by
  obtain ⟨o, e, q⟩ := x
  exact ⟨⟨o, e, (h o q).1⟩, fun b hb => by cases hb; exact ⟨o, e, (h o q).2⟩⟩
theorem isPL_typed : ∀ o, isPL vs o → o.cls = .type "list" ∧ o.dict = none := by rintro _ ⟨n, rfl⟩; exact ⟨rfl, rfl⟩
theorem mapSeq_push (vs : List Value) (v : Value) (m : Nat) : isPL (vs ++ [v]) (Obj.mapSeq (fun xs => xs.push v) { cls := .type "list", data := .seq vs.toArray m }) := ⟨m + 1, by simp [Obj.mapSeq]⟩
theorem c_append (C : Cx p g s ls mu) (hp : Pick (l, isPL vs) mu mu') (hn : vs.length ≤ 1000) (h : ∀ s' u', Cx p g s' ls ((l, isPL (vs ++ [v])) :: mu') → Q .none (tk s' u')) :
    WP (model prog w) A (call (.builtin "list.append") [.ref l, v]) Q E s := by
  have h := un1 h
  have C' := C.pick hp
  obtain ⟨o, e, m, rfl⟩ := C'.at
  constructor
  refine call_meets PySem.F.slot_list_append ⟨_, e, rfl⟩ PySem.F.entry_list_append (PySem.F.args_list_append_2 _ _) (PySem.list_append l vs.toArray m v (by simpa using fits _ hn)) ⟨e, ?_⟩
  have ho := Heap.get?_update_self (Obj.mapSeq fun xs => xs.push v) e rfl
  exact h _ (C'.turn (t := s.toks) (Heap.SameBut.update ..).extBut ho (mapSeq_push vs v m))
theorem l_add (hl : OAt s.heap l (isPL vs)) (hb : OAt s.heap b (isPL ws)) (C : Cx p g s ls mu) (hn : vs.length + ws.length ≤ 1000) (h : ∀ s' u' a, Cx p g s' ls ((a, isPL (vs ++ ws)) :: mu) → Q (.ref a) (tk s' u')) :
    WP (model prog w) A (binaryOp .Add (.ref l) (.ref b)) Q E s := by
  have h := un2 h
  obtain ⟨o, e, n, rfl⟩ := hl
  obtain ⟨o', e', n', rfl⟩ := hb
  constructor
  refine PySem.P.add_list (n := n) (n2 := n') e e' ?_ (by simpa using fits _ hn)
  exact h _ _ (C.alloc (t := s.toks) ⟨0, by simp⟩ rfl)
theorem c_index {xs : List (Str × Tok)} {q : Str × Tok} {j : Nat} (hL : OAt s.heap l (isPL (xs.map sV))) (hj : xs[j]? = some q) (hx : q.1 = x) (hno : ∀ (m : Nat) q', m < j → xs[m]? = some q' → q'.1 ≠ x) (hn : j ≤ 1000) (h : Q (.int (j : Nat) n) (tk s (n + 1))) :
    WP (model prog w) A (call (.builtin "list.index") [.ref l, .str x t]) Q E (tk s n) := by
  obtain ⟨o, e, m, rfl⟩ := hL
  have hlt : j < xs.length := (List.getElem?_eq_some_iff.mp hj).1
  have hq : xs[j] = q := (List.getElem?_eq_some_iff.mp hj).2
  constructor
  refine call_meets PySem.F.slot_list_index ⟨_, e, rfl⟩ PySem.F.entry_list_index (PySem.F.args_list_index_2 _ _)
    (MeetsSeq.list_index l (xs.map sV).toArray m (.str x t) (fun v => match v with | .str y _ => y == x | _ => false) (fun v hv => ?_) j (by simpa using hlt) (by omega) (by simp [hq, hx]) (fun m hm hm' => ?_)) ⟨e, h⟩
  · obtain ⟨q', _, rfl⟩ := List.mem_map.mp (List.mem_toArray.mp hv)
    exact eqGives_str _ _ _ _
  · have := hno m xs[m] hm' (List.getElem?_eq_getElem _)
    simpa using this
theorem abcde_at {c : Nat} (h0 : 97 ≤ c) (h1 : c ≤ 101) : Builtin.Str.occurrences ("abcde" : Str) ⟨#[c]⟩ 0 ("abcde" : Str).length 1 = [c - 97] := by
  have : c = 97 ∨ c = 98 ∨ c = 99 ∨ c = 100 ∨ c = 101 := by omega
  rcases this with rfl | rfl | rfl | rfl | rfl <;> decide +kernel
theorem c_sindex {c : Nat} (h0 : 97 ≤ c) (h1 : c ≤ 101) (h : Q (.int ((c - 97 : Nat) : Int) n) (tk s (n + 1))) : WP (model prog w) A (call (.builtin "str.index") [.str "abcde" t, .str ⟨#[c]⟩ u]) Q E (tk s n) := by
  constructor
  exact call_gives PySem.F.slot_str_index (typeIs_str _ _ _) PySem.F.entry_str_index (PySem.F.args_str_index_2 _ _) (gives_str_index "abcde" ⟨#[c]⟩ t u _ _ (abcde_at h0 h1)) h
/-- x is y, of two strs: one of the same drawing, or others -/
theorem c_is (ht : t ≠ 0) (hu : u ≠ 0) (hne : t = u ∨ x ≠ y) (h : Q (.bool (decide (t = u))) (tk s n)) : WP (model prog w) A (compareOp .Is (.str x t) (.str y u)) Q E (tk s n) := by
  constructor
  show wpAny _ _ (do return Value.bool (← isSame (.str x t) (.str y u))) _ _ _
  refine wpAny_bind ?_
  show wpAny _ _ (isSame.created (x == y) t u) _ _ _
  unfold isSame.created
  have e1 : (t == 0 || u == 0) = false := by simp [ht, hu]
  rw [e1]
  by_cases e : t = u
  · rw [decide_eq_true e] at h
    simp only [Bool.false_eq_true, if_false, e, beq_self_eq_true, if_true]
    repeat (first | exact h | refine wpAny_pure ?_ | refine wpAny_bind ?_)
  · rw [decide_eq_false e] at h
    have e2 : (t == u) = false := by simp [e]
    have e3 : (x == y) = false := by simpa using hne.resolve_left e
    simp only [Bool.false_eq_true, if_false, e2, e3, Bool.not_false, if_true]
    repeat (first | exact h | refine wpAny_pure ?_ | refine wpAny_bind ?_)
theorem c_lts (h : Q (.bool (decide (x.cps.toList < y.cps.toList))) s) : WP (model prog w) A (compareOp .Lt (.str x t) (.str y u)) Q E s := ⟨PyProof.Rows.lt_str h⟩
theorem c_gts (h : Q (.bool (decide (y.cps.toList < x.cps.toList))) s) : WP (model prog w) A (compareOp .Gt (.str x t) (.str y u)) Q E s := ⟨P.gt_str h⟩
theorem c_sum {ns : List (Int × Tok)} (hA : A.handled = none) (C : Cx p g s ls mu) (hL : OAt s.heap l (isPL (ns.map iV))) (h : ∀ s' u' t, Cx p g s' ls mu → Q (.int (ns.map (·.1)).sum t) (tk s' u')) : WP (model prog w) A (call (.builtin "sum") [.ref l]) Q E s := by
  have h := un2 (R := fun _ s' => Cx p g s' ls mu) h
  have e : (ns.map iV).toArray = intItems ns.toArray := by simp [intItems]
  have hl := hL.isList
  rw [e] at hl
  constructor
  refine sum_intListG hA hl fun h' tk t' hk => ?_
  rw [preSum_eq, List.take_of_length_le (by simp)]
  exact h _ t' (C.grow rfl rfl rfl hk)
theorem c_abs {a : Int} (C : Cx p g s ls mu) (h : ∀ s' u' t, Cx p g s' ls mu → Q (.int (if a < 0 then -a else a) t) (tk s' u')) : WP (model prog w) A (call (.builtin "abs") [.int a t]) Q E s := by
  constructor
  exact call_abs_int fun u m => h s m u C
theorem c_min {ns : List (Int × Tok)} (hA : A.handled = none) (C : Cx p g s ls mu) (hL : OAt s.heap l (isPL (ns.map iV))) (hne : ns ≠ []) (h : ∀ s' u' m t, Cx p g s' ls mu → m ∈ ns.map (·.1) → (∀ k ∈ ns.map (·.1), m ≤ k) → Q (.int m t) (tk s' u')) :
    WP (model prog w) A (call (.builtin "min") [.ref l]) Q E s := by
  have e : (ns.map iV).toArray = intItems ns.toArray := by simp [intItems]
  have hl := hL.isList
  rw [e] at hl
  have h0 : 0 < ns.length := List.length_pos_iff.mpr hne
  constructor
  refine min_intList hA hl (by simpa using h0) fun v h' tk hv hk => ?_
  obtain ⟨h1, h2⟩ := argBest_lt (numAt ns.toArray) (ns.toArray.size - 1)
  generalize argBest (fun i j => decide (numAt ns.toArray i < numAt ns.toArray j)) (ns.toArray.size - 1) = k at hv h1 h2
  have hk' : k < ns.length := by simp at h1; omega
  have ev : v = .int ns[k].1 ns[k].2 := by simp [intItems, hk'] at hv; exact hv.symm
  have at_ : ∀ (i : Nat) (hi : i < ns.length), numAt ns.toArray i = ns[i].1 := fun i hi => by simp [numAt, hi]
  subst ev
  refine h { s with heap := h' } tk _ _ (C.grow rfl rfl rfl hk) (List.mem_map.mpr ⟨_, List.getElem_mem hk', rfl⟩) fun m hm => ?_
  obtain ⟨q, hq, rfl⟩ := List.mem_map.mp hm
  obtain ⟨i, hi, rfl⟩ := List.getElem_of_mem hq
  have := h2 i (by simp; omega)
  rw [at_ k hk', at_ i hi] at this
  exact this
end
section
variable {p : Par} {g : Heap} {s : Shared} {ls : List Loc} {mu : List Own} {a b : Addr} {P P' R R' : Obj → Prop}
theorem Cx.turn2 (C : Cx p g s ls ((a, P) :: (b, R) :: mu)) {h' : Heap} {oa ob : Obj} {t : Nat} (hs : ∀ c o, c ≠ a → c ≠ b → s.heap.get? c = some o → h'.get? c = some o) (ha : h'.get? a = some oa) (hP : P' oa) (hb : h'.get? b = some ob) (hR : R' ob) :
    Cx p g { s with heap := h', toks := t } ls ((a, P') :: (b, R') :: mu) := by
  obtain ⟨_, a2, a3, a4⟩ := C.own (a, P) (.head _)
  obtain ⟨_, b2, b3, b4⟩ := C.own (b, R) (.tail _ (.head _))
  have nd := List.pairwise_cons.mp C.nd
  have nd2 := List.pairwise_cons.mp nd.2
  obtain ⟨m, ⟨oL, es, ep, hoL, r⟩, hm⟩ := C.ns
  have k : ∀ c o, g.get? c = some o ∨ p.S.heap.get? c = some o → s.heap.get? c = some o → h'.get? c = some o := fun c o q e =>
    hs c o (fun z => by subst z; rcases q with q | q; { rw [a2] at q; cases q }; { rw [a3] at q; cases q }) (fun z => by subst z; rcases q with q | q; { rw [b2] at q; cases q }; { rw [b3] at q; cases q }) e
  refine ⟨⟨C.af.gens, C.af.drawn, C.af.os, C.af.gg, fun c o e => k c o (.inl e) (C.gh c o e), fun c o e => k c o (.inr e) (C.af.hh c o e), C.af.sep⟩,
    ⟨m, ⟨oL, es, ep, hs _ _ (Ne.symm a4) (Ne.symm b4) hoL, r⟩, hm⟩, C.nL, C.hL, fun q hq => ?_, List.pairwise_cons.mpr ⟨fun q hq => ?_, List.pairwise_cons.mpr ⟨nd2.1, nd2.2⟩⟩⟩
  · rcases List.mem_cons.mp hq with rfl | hq
    · exact ⟨⟨oa, ha, hP⟩, a2, a3, a4⟩
    · rcases List.mem_cons.mp hq with rfl | hq
      · exact ⟨⟨ob, hb, hR⟩, b2, b3, b4⟩
      · obtain ⟨⟨o, k1, k5⟩, k2, k3, k4⟩ := C.own q (.tail _ (.tail _ hq))
        exact ⟨⟨o, hs _ _ (Ne.symm (nd.1 q (.tail _ hq))) (Ne.symm (nd2.1 q hq)) k1, k5⟩, k2, k3, k4⟩
  · rcases List.mem_cons.mp hq with rfl | hq
    · exact nd.1 (b, R) (.head _)
    · exact nd.1 q (.tail _ hq)
end

abbrev isEn (it : Addr) (i : Nat) : Obj → Prop := fun o => ∃ old, o = { cls := .type "enumerate", dict := none, data := .fields #[.none, .bool false, .ref it, rawInt (i : Nat), .none, old], slots := #[] }
section
variable {prog : Program} {w : World} {A : Around} {E : Value → Shared → Prop} {p : Par} {g g' : Heap} {s : Shared} {ls ls' : List Loc} {mu mu' : List Own} {env : Env} {pos : Pos} {l e it : Addr} {vs : List Value}
theorem c_enum (C : Cx p g s ls mu) (hL : s.heap.IsList l vs.toArray) {Q : Value → Shared → Prop} (h : ∀ s' u' e it, Cx p g s' ls ((e, isEn it 0) :: (it, isLI l 0) :: mu) → Q (.ref e) (tk s' u')) : WP (model prog w) A (call (.type "enumerate") [.ref l]) Q E s := by
  constructor
  refine call_enumerate_list hL fun h' he hit hz hk => ?_
  have C' : Cx p g { s with heap := h', toks := s.toks } ls mu := C.grow rfl rfl rfl hk
  obtain ⟨o, ho, hq⟩ := hit
  have n1 : s.heap.get? (s.heap.objs.size + 1) = none := by
    cases e : s.heap.get? (s.heap.objs.size + 1) with
    | none => rfl
    | some o => exact absurd (Heap.lt_size e) (Nat.not_lt.mpr (Nat.le_succ _))
  have C₁ := C.add (P := isLI l 0) C' (get_size _) ho hq (C.fresh (get_size _))
  have C₂ := C.add (P := isEn s.heap.objs.size 0) C₁ n1 he ⟨_, rfl⟩ (fun q hq => by
    rcases List.mem_cons.mp hq with rfl | hq
    · exact Nat.succ_ne_self _
    · exact C.fresh n1 q hq)
  exact h _ s.toks _ _ C₂
theorem it_enum (C : Cx p g s ls ((e, isEn it 0) :: mu)) {Q : Value → Shared → Prop} (h : Q (.ref e) s) : WP (model prog w) A (pyIter (.ref e)) Q E s := by
  obtain ⟨o, ho, old, rfl⟩ := C.at
  exact ⟨wpAny_pyIter_enum (i := ((0 : Nat) : Int)) ho h⟩

theorem for_enum {x y : Str} {px py pt : Pos} {x1 : Nat} {Q : Flow → Shared → Prop} {body orelse : List Stmt} (J : Nat → Heap → List Loc → List Own → Prop) (hA : A.handled = none) (hL : g.IsList l vs.toArray) (C : Cx p g s ls ((e, isEn it 0) :: (it, isLI l 0) :: mu)) (h0 : J 0 g ls mu)
    (turn : ∀ i v g' s' u' ls' mu' t E QQ, (∀ {g'' s ls'' mu'' u}, g'.StaysIn g'' → Cx p g'' s ls'' ((e, isEn it (i + 1)) :: (it, isLI l (i + 1)) :: mu'') → J (i + 1) g'' ls'' mu'' → QQ .next (tk s u)) → (∀ {v s}, Q (.ret v) s → QQ (.ret v) s) →
      vs[i]? = some v → g.StaysIn g' → J i g' ls' mu' → Cx p g' s' ls' ((e, isEn it (i + 1)) :: (it, isLI l (i + 1)) :: mu') →
      WP (model prog w) A (assign (.Name x px) env (.int (i : Nat) t)) (fun _ s₂ => WP (model prog w) A (assign (.Name y py) env v) (fun _ s₃ => WP (model prog w) A (execs body env) QQ E s₃) E s₂) E (tk s' u'))
    (fin : ∀ g' s' u' ls' mu' E, g.StaysIn g' → J vs.length g' ls' mu' → Cx p g' s' ls' mu' → WP (model prog w) A (execs orelse env) Q E (tk s' u')) :
    CP (model prog w) A (.forLoop (.Tuple [.Name x px, .Name y py] x1 pt) (.ref e) body orelse env) (LoopR (model prog w) A env Q E) s := by
  constructor
  refine codeAny_forLoop_any (fun k s => ∃ i g' ls mu, k = vs.length + 1 - i ∧ i ≤ vs.length ∧ g.StaysIn g' ∧ Cx p g' s ls ((e, isEn it i) :: (it, isLI l i) :: mu) ∧ J i g' ls mu) ?_ (vs.length + 1) ⟨0, g, ls, mu, rfl, Nat.zero_le _, stays_refl g, C, h0⟩
  rintro k s' ⟨i, g', ls', mu', rfl, hi, hg, C', hJ⟩
  have hL' : s'.heap.IsList l vs.toArray := hL.at fun o e => C'.gh _ _ (hg _ _ e)
  obtain ⟨o, ho, old, rfl⟩ := C'.at
  have hit : s'.heap.IsListIter it l i := C'.owns (.tail _ (.head _))
  have hne : e ≠ it := (List.pairwise_cons.mp C'.nd).1 _ (.head _)
  by_cases hlt : i < vs.length
  · have h3 : vs.toArray[i]? = some vs[i] := by simp [hlt]
    refine @wpAny_pyNext_enum_item _ _ _ _ _ _ _ _ _ _ _ _ _ ho hit hL' h3 hne fun h₁ heo hit₁ ht₁ hz₁ hk₁ => ?_
    obtain ⟨oi, hoi, hqi⟩ := hit₁
    have C₁ : Cx p g' { s' with heap := h₁, toks := s'.toks + 1 } ls' ((e, fun o => o = { cls := .type "enumerate", dict := none, data := .fields #[rawInt (s'.heap.objs.size : Nat), .bool false, .ref it, rawInt ((i : Int) + 1), .none, vs[i]], slots := #[] }) :: (it, isLI l (i + 1)) :: mu') :=
      C'.turn2 hk₁ heo rfl hoi hqi
    refine @wpAny_letOwnedTupleGo_enum _ _ _ _ _ _ _ _ _ _ _ _ _ _ heo fun h₂ he₂ hs₂ => ?_
    have C₂ : Cx p g' { s' with heap := h₂, toks := s'.toks + 1 } ls' ((e, isEn it (i + 1)) :: (it, isLI l (i + 1)) :: mu') := C₁.turn (s := { s' with heap := h₁, toks := s'.toks + 1 }) hs₂.extBut he₂ ⟨_, rfl⟩
    have hT : OAt h₂ s'.heap.objs.size (isPT [.int (i : Nat) s'.toks, vs[i]]) := ⟨_, (hs₂.2 _ (Nat.ne_of_gt (Heap.lt_size ho))).trans ht₁, 0, rfl⟩
    refine (a_two hA C₂ hT fun s₃ u₃ C₃ => turn i _ g' s₃ u₃ ls' mu' _ _ (fun f s => match f with
      | .next | .cont => ∃ g'' ls mu, g'.StaysIn g'' ∧ Cx p g'' s ls ((e, isEn it (i + 1)) :: (it, isLI l (i + 1)) :: mu) ∧ J (i + 1) g'' ls mu
      | .brk => Q .next s
      | .ret v => Q (.ret v) s) (fun {g'' s ls'' mu'' u} a b c => ⟨g'', ls'', mu'', a, b.tk, c⟩) (fun a => a) (List.getElem?_eq_getElem hlt) hg hJ C₃).by fun _ s₄ h₄ => h₄.by fun f s₅ h₅ => ?_
    cases f with
    | next => obtain ⟨g₂, ls₂, mu₂, a, b, c⟩ := h₅; exact ⟨vs.length + 1 - (i + 1), by omega, i + 1, g₂, ls₂, mu₂, rfl, hlt, stays_trans hg a, b, c⟩
    | cont => obtain ⟨g₂, ls₂, mu₂, a, b, c⟩ := h₅; exact ⟨vs.length + 1 - (i + 1), by omega, i + 1, g₂, ls₂, mu₂, rfl, hlt, stays_trans hg a, b, c⟩
    | brk => exact h₅
    | ret v => exact h₅
  · have e' : i = vs.length := by omega
    subst e'
    refine @wpAny_pyNext_enum_end _ _ _ _ _ _ _ _ _ _ _ _ hA ho hit hL' (by simp) fun h' he' => ?_
    have C'' := C'.perm (List.Perm.swap _ _ _)
    exact (fin g' { s' with heap := h' } s'.toks ls' mu' _ hg hJ (C''.gone (t := s'.toks) he').drop).out
end
section
variable {prog : Program} {w : World} {A : Around} {E : Value → Shared → Prop} {p : Par} {g : Heap} {s : Shared} {ls : List Loc} {mu mu' : List Own} {env : Env} {pos apos : Pos} {Q : Value → Shared → Prop} {l b : Addr} {vs ws : List Value} {v : Value} {x y : Str} {t u : Tok} {n : Nat}
theorem l_list {M : Model} {elts : List Expr} (h : WP M A (spliced (backTo pos (starEach elts env))) (fun vs s₁ => vs.length ≤ 1000 ∧ ∃ p g ls mu, Cx p g s₁ ls mu ∧ ∀ s' u' a, Cx p g s' ls ((a, isPL vs) :: mu) → Q (.ref a) (tk s' u')) E s) : WP M A (eval (.List elts pos) env) Q E s :=
  l_disp (h.mono fun vs s₁ ⟨h1, p, g, ls, mu, C, h2⟩ => l_mk C h1 h2)
theorem l_tuple {M : Model} {elts : List Expr} {k : Nat} (h : WP M A (spliced (backTo pos (starEach elts env))) (fun vs s₁ => vs.length ≤ 1000 ∧ ∃ p g ls mu, Cx p g s₁ ls mu ∧ ∀ s' u' a, Cx p g s' ls ((a, isPT vs) :: mu) → Q (.ref a) (tk s' u')) E s) : WP M A (eval (.Tuple elts k pos) env) Q E s :=
  l_tup (h.mono fun vs s₁ ⟨h1, p, g, ls, mu, C, h2⟩ => t_mk C h1 h2)
theorem c_getd {T : Type} [DecidableEq T] {knd : KeyKind prog w T} {kvs : List (T × Value)} {d : Addr} {k : T} {key dflt : Value} (hD : s.heap.DictOf knd d kvs) (hd : (d == sysModules) = false) (hkey : knd.is k key = true) (h : Q ((valueAt kvs k).getD dflt) (tk s (n + 1))) :
    WP (model prog w) A (call (.builtin "dict.get") [.ref d, key, dflt]) Q E (tk s n) := by
  constructor
  have hD' : (tk s n).heap.DictOf knd d kvs := hD
  exact call_meetsIn PySem.F.slot_dict_get hD'.mapOf.typeIs PySem.F.entry_dict_get (PySem.F.args_dict_get_3 _ _ _) (meets_dict_get_default knd d hkey hd dflt) ⟨_, hD'.mapOf, h⟩
theorem Cx.size_ne {P : Obj → Prop} (C : Cx p g s ls mu) {h' : Heap} {o : Obj} (C' : Cx p g { s with heap := h', toks := t } ls mu) (ho : h'.get? s.heap.objs.size = some o) (hP : P o) : Cx p g { s with heap := h', toks := t } ls ((s.heap.objs.size, P) :: mu) :=
  C.add C' (get_size _) ho hP (C.fresh (get_size _))
theorem c_list (C : Cx p g s ls mu) (hL : OAt s.heap l (isPL vs)) (hn : vs.length ≤ 1000) (h : ∀ s' u' a, Cx p g s' ls ((a, isPL vs) :: mu) → Q (.ref a) (tk s' u')) : WP (model prog w) A (call (.type "list") [.ref l]) Q E s := by
  obtain ⟨o, e, m, rfl⟩ := hL
  constructor
  refine call_list_seq l (.inl rfl) e rfl rfl (fun h' c' hk ho => ?_) (by simpa using fits _ hn)
  have C' : Cx p g { s with heap := h', toks := s.toks } ls mu := C.grow rfl rfl rfl hk
  exact h _ s.toks _ (C.size_ne C' ho ⟨_, rfl⟩)
theorem c_dict {T : Type} [DecidableEq T] {knd : KeyKind prog w T} {kvs : List (T × Value)} {d : Addr} {K : Frag} (B : Base K p.G) (C : Cx p g s ls mu) (hD : s.heap.DictOf knd d kvs) (hd : (d == sysModules) = false) (hn : kvs.length ≤ 1000)
    (h : ∀ s' u' a, (a == sysModules) = false → Cx p g s' ls ((a, isDk knd kvs) :: mu) → Q (.ref a) (tk s' u')) : WP (model prog w) A (call (.type "dict") [.ref d]) Q E s := by
  have hs := base_size ((B.mono C.af.gg).mono C.gh)
  constructor
  refine kt_call_dict hd hD (fits _ hn) fun h' hD' hk => ?_
  have C₀ : Cx p g { s with heap := s.heap.push { cls := .type "dict", data := .dict #[] }, toks := s.toks } ls ((s.heap.objs.size, fun _ => True) :: mu) := C.alloc trivial rfl
  obtain ⟨o, ho, q⟩ := dict_oat hD'
  exact h _ s.toks _ (beq_eq_false_iff_ne.mpr (Nat.ne_of_gt hs)) (C₀.turn (t := s.toks) (s := { s with heap := s.heap.push { cls := .type "dict", data := .dict #[] }, toks := s.toks }) hk.extBut ho q)
/-- a dict display -/
theorem e_disp {T : Type} [DecidableEq T] {knd : KeyKind prog w T} {K : Frag} {keys : List (Option Expr)} {values : List Expr} (B : Base K p.G) (C : Cx p g s ls mu) (hall : (keys.all (·.isSome) && keys.length == values.length && decide (keys.length ≤ 15) && !keys.isEmpty) = true)
    (h : ∀ s' u' d, (d == sysModules) = false → Cx p g s' ls ((d, isDk knd []) :: mu) → WP (model prog w) A (evalPairs (pairTrees keys values env pos)) (fun vs s₁ => ∃ kvs, Carries knd vs kvs ∧ (kvs.map (·.1)).Nodup ∧ Cx p g s₁ ls ((d, isDk knd []) :: mu) ∧
      ∀ s' u', Cx p g s' ls ((d, isDk knd kvs) :: mu) → Q (.ref d) (tk s' u')) E (tk s' u')) : WP (model prog w) A (eval (.Dict keys values pos) env) Q E s := by
  simp only [Bool.and_eq_true, beq_iff_eq, decide_eq_true_eq, Bool.not_eq_true'] at hall
  obtain ⟨⟨⟨h1, h2⟩, h3⟩, h4⟩ := hall
  have hs := base_size ((B.mono C.af.gg).mono C.gh)
  constructor
  refine wpAny_Dict_walk (knd := knd) h1 h2 (fun e => by rw [e] at h4; cases h4) h3 ?_
  have C₀ : Cx p g { s with heap := s.heap.push { cls := .type "dict", data := .dict #[] }, toks := s.toks } ls ((s.heap.objs.size, isDk knd []) :: mu) := C.alloc ⟨#[], 0, ⟨rfl, rfl, rfl⟩, rfl, (fun _ he => by simp at he), Pairs.nil, List.nodup_nil⟩ rfl
  refine (h _ s.toks s.heap.objs.size (beq_eq_false_iff_ne.mpr (Nat.ne_of_gt hs)) C₀).by fun vs s₁ h₁ => ?_
  obtain ⟨kvs, hc, hn, C₁, hQ⟩ := h₁
  have hD : s₁.heap.DictOf knd s.heap.objs.size [] := OAt.dict C₁.at
  refine ⟨kvs, hc, hD, fun h' hd' hk => ?_⟩
  rw [merged_nil_of_nodup kvs hn] at hd'
  obtain ⟨o, ho, q⟩ := dict_oat hd'
  exact hQ { s₁ with heap := h' } _ (C₁.turn (t := s₁.toks) hk.extBut ho q)
theorem e_pair {M : Model} {k v : Expr} {ks : List (Option Expr)} {vs : List Expr} {Q : List (Value × Value) → Shared → Prop} (h : WP (model prog w) A (eval k env) (fun kv s₁ => WP (model prog w) A (eval v env) (fun vv s₂ => WP (model prog w) A (evalPairs (pairTrees ks vs env pos)) (fun r s₃ => Q ((kv, vv) :: r) s₃) E s₂) E s₁) E s) :
    WP (model prog w) A (evalPairs (pairTrees (some k :: ks) (v :: vs) env pos)) Q E s := ⟨pairTrees_cons_walk (h.by fun _ _ x => x.by fun _ _ x => x.out)⟩
theorem e_pairs {Q : List (Value × Value) → Shared → Prop} (h : Q [] s) : WP (model prog w) A (evalPairs (pairTrees [] [] env pos)) Q E s := ⟨pairTrees_nil_walk h⟩
/-- l != [] -/
theorem c_nempty (hA : A.units < cLine) (hl : OAt s.heap l (isPL vs)) (hb : OAt s.heap b (isPL [])) (h : Q (.bool (decide (vs ≠ []))) s) : WP (model prog w) A (compareOp .NotEq (.ref l) (.ref b)) Q E s := by
  constructor
  cases vs with
  | nil =>
    rw [decide_eq_false (by simp)] at h
    exact SeqAt.RcNeAt.lists (e := fun _ => true) hl.isList hb.isList rfl hA (fun j h1 => absurd h1 (Nat.not_lt_zero _)) prog w E Q h
  | cons v r =>
    rw [decide_eq_true (by simp)] at h
    exact SeqAt.RcNeAt.lists_lengths hl.isList hb.isList (by simp) hA prog w E Q h
theorem l_mul {k : Int} (C : Cx p g s ls mu) (hl : OAt s.heap l (isPL vs)) (h0 : 0 ≤ k) (h1 : k ≤ 100) (hn : vs.length ≤ 10) (h : ∀ s' u' a, Cx p g s' ls ((a, isPL (List.replicate k.toNat vs).flatten) :: mu) → Q (.ref a) (tk s' u')) : WP (model prog w) A (binaryOp .Mult (.ref l) (.int k u)) Q E s := by
  have h := un2 h
  obtain ⟨o, e, m, rfl⟩ := hl
  have hz : vs.toArray.size * k.toNat ≤ 1000 := by
    rw [List.size_toArray]
    exact Nat.le_trans (Nat.mul_le_mul hn (show k.toNat ≤ 100 by omega)) (by decide)
  constructor
  refine wpAny_binaryOp_repeat_ref (T := "list") (U := "int") (by decide) ⟨_, e, rfl⟩ (fun s' => typeIs_int s' k u) noFill_list_mul PySem.F.fills_int_mul PySem.F.slot_int_rmul repeat_list PySem.F.slot_int_index.lookup
    (call_meets PySem.F.slot_int_rmul (typeIs_int s k u) PySem.F.entry_int_rmul (PySem.F.args_int_rmul_2 _ _) (int___rmul___int_list k u l vs.toArray m)
      ⟨e, rfl, ⟨_, e, rfl⟩, call_meets PySem.F.slot_list_mul ⟨_, e, rfl⟩ PySem.F.entry_list_mul (PySem.F.args_list_mul_2 _ _)
        (AutoListH.list___mul___list_int_3 l vs.toArray m k u (by simp [Builtin.List.listFitsIndex]; omega) (by omega) (by simp [Builtin.List.listTooLong, sizeLine]; simp at hz; omega)) ⟨e, ?_⟩⟩)
  refine h _ _ (C.alloc (t := s.toks) ⟨0, ?_⟩ rfl)
  rw [listMul_foldl_if]
theorem k_expr {M : Model} {e : Expr} {rest : List Stmt} {Q : Flow → Shared → Prop} (h : WP M A (eval e env) (fun v s' => v = .none ∧ WP M A (execs rest env) Q E s') E s) (hi : interactive env = false) (hs : swapsWith e none pos.line env = pure false) : WP M A (execs (.Expr e pos :: rest) env) Q E s :=
  k_cons ⟨wpAny_Expr (h.by fun v s' ⟨e, x⟩ => by subst e; exact Then.next x) hi hs⟩
end
/-- some of these, in another order -/
inductive Sel : List Own → List Own → Prop
  | nil {mu : List Own} : Sel mu []
  | cons {q : Own} {mu mu₁ r : List Own} : Pick q mu mu₁ → Sel mu₁ r → Sel mu (q :: r)
theorem Sel.sub {mu mu' : List Own} (h : Sel mu mu') : ∃ r, mu.Perm (mu' ++ r) := by
  induction h with
  | nil => exact ⟨_, List.Perm.refl _⟩
  | cons hp _ ih => obtain ⟨r, hr⟩ := ih; exact ⟨r, hp.perm.trans (List.Perm.cons _ hr)⟩
theorem Cx.sel {p : Par} {g : Heap} {s : Shared} {ls : List Loc} {mu mu' : List Own} (C : Cx p g s ls mu) (h : Sel mu mu') : Cx p g s ls mu' := by
  obtain ⟨r, hr⟩ := h.sub
  have C' := C.perm hr
  exact ⟨C'.af, C'.ns, C'.nL, C'.hL, fun q hq => C'.own q (List.mem_append_left _ hq), (List.pairwise_append.mp C'.nd).1⟩
/-- the ends of an item of a list comprehension -/
structure EndL (p' : Par) (g : Heap) (J : Nat → Heap → List Value → Prop) (I D : Addr) (P : Nat → Obj → Prop) (i : Nat) (ys : List Value) (QQ : Value → Shared → Prop) (KK : Shared → Prop) : Prop where
  made : ∀ {g' s ls mu mu' mu'' y u}, g.StaysIn g' → Cx p' g' s ls mu → Pick (I, P (i + 1)) mu mu' → Pick (D, isPL ys) mu' mu'' → J (i + 1) g' (ys ++ [y]) → QQ y (tk s u)
  skip : ∀ {g' s ls mu mu' mu'' u}, g.StaysIn g' → Cx p' g' s ls mu → Pick (I, P (i + 1)) mu mu' → Pick (D, isPL ys) mu' mu'' → J (i + 1) g' ys → KK (tk s u)
/-- .. of a dict comprehension -/
structure EndD {prog : Program} {w : World} {T : Type} [DecidableEq T] (knd : KeyKind prog w T) (p' : Par) (g : Heap) (J : Nat → Heap → List (T × Value) → Prop) (I D : Addr) (P : Nat → Obj → Prop) (i : Nat) (kvs : List (T × Value)) (QQ : Value → Value → Shared → Prop) (KK : Shared → Prop) : Prop where
  made : ∀ {k kv g' s ls mu mu' mu'' v u}, knd.is k kv = true → g.StaysIn g' → Cx p' g' s ls mu → Pick (I, P (i + 1)) mu mu' → Pick (D, isDk knd kvs) mu' mu'' → J (i + 1) g' (stored kvs k v) → QQ kv v (tk s u)
  skip : ∀ {g' s ls mu mu' mu'' u}, g.StaysIn g' → Cx p' g' s ls mu → Pick (I, P (i + 1)) mu mu' → Pick (D, isDk knd kvs) mu' mu'' → J (i + 1) g' kvs → KK (tk s u)
section
variable {prog : Program} {w : World} {A : Around} {E : Value → Shared → Prop} {p : Par} {g : Heap} {s : Shared} {ls ls' : List Loc} {mu : List Own} {env : Env} {ks ks' : List (Str × NameKind)} {I : Addr} {n : Nat} {P : Nat → Obj → Prop} {V : Nat → Value → Prop}
  {scope : Scope} {fr : List Free} {elt kx vx iter : Expr} {ifs : List Expr} {pos px py : Pos} {x y : Str} {T : Type} [DecidableEq T]
abbrev Frs (env : Env) (fr : List Free) (mu : List Own) : Prop := ∀ q ∈ fr, env.kindOf q.1 = some .cell ∧ env.cells.lookup q.1 = some q.2.1 ∧ (q.2.1, isCell (some q.2.2)) ∈ mu
theorem lc_plain {Q : Value → Shared → Prop} (S : Src prog w A g I n P V) (hn : n ≤ 1000) (C : Cx p g s ls ((I, P 0) :: mu)) (H : En env p.L ks) (Z : CompScope scope fr ks') (hfr : Frs env fr mu) (J : Nat → Heap → List Value → Prop) (h0 : J 0 g [])
    (turn : ∀ S' L' cenv D QQ KK, En cenv L' ks' → Caps S'.heap cenv (cpOf fr) → ∀ i v g' ys s' u' E, EndL ⟨S', g, L'⟩ g' J I D P i ys QQ KK → i < n → V i v → g.StaysIn g' → J i g' ys → Cx ⟨S', g, L'⟩ g' s' [] [(I, P (i + 1)), (D, isPL ys)] →
      WP (model prog w) A (storeName cenv x v) (fun _ s₂ => Tst (model prog w) A cenv (fun s₃ => WP (model prog w) A (eval elt cenv) QQ E s₃) KK E ifs s₂) E (tk s' u'))
    (fin : ∀ g' s' u' D ys, g.StaysIn g' → J n g' ys → Cx p g' s' ls ((D, isPL ys) :: mu) → Q (.ref D) (tk s' u')) :
    LGoal prog w A E env scope fr (.ListComp elt [⟨.Name x px, iter, ifs, 0⟩] scope pos) (newList []) (compPost (model prog w) A E none Q) (.ref I) s :=
  ⟨comp_list S hn C H Z hfr (fun _ => rfl) J h0 (fun S' L' cenv D HE HC i v g' ys s' u' E hi hv hg hJ C' => a_name (turn S' L' cenv D _ _ HE HC i v g' ys s' u' E
      ⟨fun a b c d e => ⟨_, _, _, _, a, b.tk, c, ⟨_, d⟩, e⟩, fun a b c d e => ⟨_, _, _, _, a, b.tk, c, ⟨_, d⟩, e⟩⟩ hi hv hg hJ C'))
    fun g' s' L' D ys hg hJ C' => post_plain C' fun s'' u'' C'' => fin g' s'' u'' D ys hg hJ C''⟩
theorem lc_store {Q : Shared → Prop} (S : Src prog w A g I n P V) (hn : n ≤ 1000) (C : Cx p g s ls ((I, P 0) :: mu)) (H : En env p.L ks) (hk : (y, NameKind.local) ∈ ks) (hl : Drop y ls ls') (Z : CompScope scope fr ks') (hfr : Frs env fr mu) (J : Nat → Heap → List Value → Prop) (h0 : J 0 g [])
    (turn : ∀ S' L' cenv D QQ KK, En cenv L' ks' → Caps S'.heap cenv (cpOf fr) → ∀ i v g' ys s' u' E, EndL ⟨S', g, L'⟩ g' J I D P i ys QQ KK → i < n → V i v → g.StaysIn g' → J i g' ys → Cx ⟨S', g, L'⟩ g' s' [] [(I, P (i + 1)), (D, isPL ys)] →
      WP (model prog w) A (storeName cenv x v) (fun _ s₂ => Tst (model prog w) A cenv (fun s₃ => WP (model prog w) A (eval elt cenv) QQ E s₃) KK E ifs s₂) E (tk s' u'))
    (fin : ∀ g' s' u' D ys, g.StaysIn g' → J n g' ys → Cx p g' s' ((y, .ref D) :: ls') ((D, isPL ys) :: mu) → Q (tk s' u')) :
    LGoal prog w A E env scope fr (.ListComp elt [⟨.Name x px, iter, ifs, 0⟩] scope pos) (newList []) (compPost (model prog w) A E (some (assign (.Name y py) env)) (fun _ s' => Q s')) (.ref I) s :=
  ⟨comp_list S hn C H Z hfr (fun _ => rfl) J h0 (fun S' L' cenv D HE HC i v g' ys s' u' E hi hv hg hJ C' => a_name (turn S' L' cenv D _ _ HE HC i v g' ys s' u' E
      ⟨fun a b c d e => ⟨_, _, _, _, a, b.tk, c, ⟨_, d⟩, e⟩, fun a b c d e => ⟨_, _, _, _, a, b.tk, c, ⟨_, d⟩, e⟩⟩ hi hv hg hJ C'))
    fun g' s' L' D ys hg hJ C' => post_store C' H hk hl fun s'' u'' C'' => fin g' s'' u'' D ys hg hJ C''⟩
theorem dc_plain {Q : Value → Shared → Prop} (knd : KeyKind prog w T) (S : Src prog w A g I n P V) (hn : n ≤ 1000) (C : Cx p g s ls ((I, P 0) :: mu)) (H : En env p.L ks) (Z : CompScope scope fr ks') (hfr : Frs env fr mu) (J : Nat → Heap → List (T × Value) → Prop) (h0 : J 0 g [])
    (turn : ∀ S' L' cenv D QQ KK, En cenv L' ks' → Caps S'.heap cenv (cpOf fr) → ∀ i v g' kvs s' u' E, EndD knd ⟨S', g, L'⟩ g' J I D P i kvs QQ KK → i < n → V i v → g.StaysIn g' → J i g' kvs → Cx ⟨S', g, L'⟩ g' s' [] [(I, P (i + 1)), (D, isDk knd kvs)] →
      WP (model prog w) A (storeName cenv x v) (fun _ s₂ => Tst (model prog w) A cenv (fun s₃ => WP (model prog w) A (eval kx cenv) (fun kv s₄ => WP (model prog w) A (eval vx cenv) (QQ kv) E s₄) E s₃) KK E ifs s₂) E (tk s' u'))
    (fin : ∀ g' s' u' D kvs, s.heap.objs.size ≤ D → g.StaysIn g' → J n g' kvs → Cx p g' s' ls ((D, isDk knd kvs) :: mu) → Q (.ref D) (tk s' u')) :
    LGoal prog w A E env scope fr (.DictComp kx vx [⟨.Name x px, iter, ifs, 0⟩] scope pos) newDict (compPost (model prog w) A E none Q) (.ref I) s :=
  ⟨comp_dict knd S hn C H Z hfr (fun _ => rfl) J h0 (fun S' L' cenv D HE HC i v g' ys s' u' E hi hv hg hJ C' => a_name (turn S' L' cenv D _ _ HE HC i v g' ys s' u' E
      ⟨fun o a b c d e => ⟨_, _, _, _, _, o, a, b.tk, c, ⟨_, d⟩, e⟩, fun a b c d e => ⟨_, _, _, _, a, b.tk, c, ⟨_, d⟩, e⟩⟩ hi hv hg hJ C'))
    fun g' s' L' D ys hsz hg hJ C' => post_plain C' fun s'' u'' C'' => fin g' s'' u'' D ys hsz hg hJ C''⟩
theorem dc_store {Q : Shared → Prop} (knd : KeyKind prog w T) (S : Src prog w A g I n P V) (hn : n ≤ 1000) (C : Cx p g s ls ((I, P 0) :: mu)) (H : En env p.L ks) (hk : (y, NameKind.local) ∈ ks) (hl : Drop y ls ls') (Z : CompScope scope fr ks') (hfr : Frs env fr mu) (J : Nat → Heap → List (T × Value) → Prop) (h0 : J 0 g [])
    (turn : ∀ S' L' cenv D QQ KK, En cenv L' ks' → Caps S'.heap cenv (cpOf fr) → ∀ i v g' kvs s' u' E, EndD knd ⟨S', g, L'⟩ g' J I D P i kvs QQ KK → i < n → V i v → g.StaysIn g' → J i g' kvs → Cx ⟨S', g, L'⟩ g' s' [] [(I, P (i + 1)), (D, isDk knd kvs)] →
      WP (model prog w) A (storeName cenv x v) (fun _ s₂ => Tst (model prog w) A cenv (fun s₃ => WP (model prog w) A (eval kx cenv) (fun kv s₄ => WP (model prog w) A (eval vx cenv) (QQ kv) E s₄) E s₃) KK E ifs s₂) E (tk s' u'))
    (fin : ∀ g' s' u' D kvs, s.heap.objs.size ≤ D → g.StaysIn g' → J n g' kvs → Cx p g' s' ((y, .ref D) :: ls') ((D, isDk knd kvs) :: mu) → Q (tk s' u')) :
    LGoal prog w A E env scope fr (.DictComp kx vx [⟨.Name x px, iter, ifs, 0⟩] scope pos) newDict (compPost (model prog w) A E (some (assign (.Name y py) env)) (fun _ s' => Q s')) (.ref I) s :=
  ⟨comp_dict knd S hn C H Z hfr (fun _ => rfl) J h0 (fun S' L' cenv D HE HC i v g' ys s' u' E hi hv hg hJ C' => a_name (turn S' L' cenv D _ _ HE HC i v g' ys s' u' E
      ⟨fun o a b c d e => ⟨_, _, _, _, _, o, a, b.tk, c, ⟨_, d⟩, e⟩, fun a b c d e => ⟨_, _, _, _, a, b.tk, c, ⟨_, d⟩, e⟩⟩ hi hv hg hJ C'))
    fun g' s' L' D ys hsz hg hJ C' => post_store C' H hk hl fun s'' u'' C'' => fin g' s'' u'' D ys hsz hg hJ C''⟩
theorem d_itemS {d : Addr} {kvs : List (Str × Value)} {value slice : Expr} {key : Str} {t : Tok} {v : Value} {r : Nat} {Q : Value → Shared → Prop} (hD : s.heap.DictOf (strKind prog w) d kvs) (hv : valueAt kvs key = some v) (h : ∀ m, Q v (tk s m))
    (hs : subscripted slice false (.ref d) (.str key t) = operate [.ref d, .str key t] (getItem (.ref d) (.str key t)) := by with_unfolding_all rfl) :
    WP (model prog w) A (subscriptTail value slice (.ref d) (.str key t)) Q E (tk s r) := d_item hD (strKind_is _ _ _ _) hv h hs
theorem Tst0 {M : Model} {Qt Qf : Shared → Prop} (h : Qt s) : Tst M A env Qt Qf E [] s := h
theorem Tst1 {M : Model} {Qt Qf : Shared → Prop} {c : Expr} (h : WP M A (isTrue c env (eval c env)) (fun b s' => (b = true → Qt s') ∧ (b = false → Qf s')) E s) : Tst M A env Qt Qf E [c] s := h
theorem frs_of {cl : List (Str × Addr)} (Z : CellsAt env cl) (h : ∀ q ∈ fr, (q.1, q.2.1) ∈ cl ∧ (q.2.1, isCell (some q.2.2)) ∈ mu) : Frs env fr mu := fun q hq => ⟨(Z.at (h q hq).1).1, (Z.at (h q hq).1).2, (h q hq).2⟩
theorem cl_of {cl : List (Str × Addr)} (Z : CellsAt env cl) (h : ∀ q ∈ fr, (q.1, q.2.1) ∈ cl) : ∀ q ∈ fr, env.cells.lookup q.1 = some q.2.1 := fun q hq => (Z.at (h q hq)).2
section
variable {target : Expr}
theorem e_lc {Q : Value → Shared → Prop} {cl : List (Str × Addr)} (Z : CellsAt env cl) (ZC : CompScope scope fr ks') (hc : ∀ q ∈ fr, (q.1, q.2.1) ∈ cl)
    (h : CompScope scope fr ks' → WP (model prog w) A (eval iter env) (fun x s₁ => WP (model prog w) A (pyIter x) (fun it s₂ => LGoal prog w A E env scope fr (.ListComp elt [⟨target, iter, ifs, 0⟩] scope pos) (newList []) (compPost (model prog w) A E none Q) it s₂) E s₁) E s)
    (hs : ∀ x, foldedSetIterable iter env x = pure x) : WP (model prog w) A (eval (.ListComp elt [⟨target, iter, ifs, 0⟩] scope pos) env) Q E s := e_lcomp ZC (cl_of Z hc) (h ZC) hs
theorem e_dc {Q : Value → Shared → Prop} {cl : List (Str × Addr)} (Z : CellsAt env cl) (ZC : CompScope scope fr ks') (hc : ∀ q ∈ fr, (q.1, q.2.1) ∈ cl)
    (h : CompScope scope fr ks' → WP (model prog w) A (eval iter env) (fun x s₁ => WP (model prog w) A (pyIter x) (fun it s₂ => LGoal prog w A E env scope fr (.DictComp kx vx [⟨target, iter, ifs, 0⟩] scope pos) newDict (compPost (model prog w) A E none Q) it s₂) E s₁) E s)
    (hs : ∀ x, foldedSetIterable iter env x = pure x) : WP (model prog w) A (eval (.DictComp kx vx [⟨target, iter, ifs, 0⟩] scope pos) env) Q E s := e_dcomp ZC (cl_of Z hc) (h ZC) hs
theorem k_lc {spos : Pos} {rest : List Stmt} {Q : Flow → Shared → Prop} {cl : List (Str × Addr)} (H : En env p.L ks) (hk : (y, NameKind.local) ∈ ks) (hsw : (py.line == pos.line && !(scope.names.any fun (n, k) => n == y && (k == .local || k == .cell))) = true) (Z : CellsAt env cl) (ZC : CompScope scope fr ks') (hc : ∀ q ∈ fr, (q.1, q.2.1) ∈ cl)
    (h : CompScope scope fr ks' → WP (model prog w) A (eval iter env) (fun x s₁ => WP (model prog w) A (pyIter x) (fun it s₂ => LGoal prog w A E env scope fr (.ListComp elt [⟨target, iter, ifs, 0⟩] scope pos) (newList []) (compPost (model prog w) A E (some (assign (.Name y py) env)) (fun _ s' => WP (model prog w) A (execs rest env) Q E s')) it s₂) E s₁) E s)
    (hs : ∀ x, foldedSetIterable iter env x = pure x) : WP (model prog w) A (execs (.Assign [.Name y py] (.ListComp elt [⟨target, iter, ifs, 0⟩] scope pos) spos :: rest) env) Q E s := k_lcomp (swaps_l H.kind (H.ks _ hk) hsw) ZC (cl_of Z hc) (h ZC) hs
theorem k_dc {spos : Pos} {rest : List Stmt} {Q : Flow → Shared → Prop} {cl : List (Str × Addr)} (H : En env p.L ks) (hk : (y, NameKind.local) ∈ ks) (hsw : (py.line == pos.line && !(scope.names.any fun (n, k) => n == y && (k == .local || k == .cell))) = true) (Z : CellsAt env cl) (ZC : CompScope scope fr ks') (hc : ∀ q ∈ fr, (q.1, q.2.1) ∈ cl)
    (h : CompScope scope fr ks' → WP (model prog w) A (eval iter env) (fun x s₁ => WP (model prog w) A (pyIter x) (fun it s₂ => LGoal prog w A E env scope fr (.DictComp kx vx [⟨target, iter, ifs, 0⟩] scope pos) newDict (compPost (model prog w) A E (some (assign (.Name y py) env)) (fun _ s' => WP (model prog w) A (execs rest env) Q E s')) it s₂) E s₁) E s)
    (hs : ∀ x, foldedSetIterable iter env x = pure x) : WP (model prog w) A (execs (.Assign [.Name y py] (.DictComp kx vx [⟨target, iter, ifs, 0⟩] scope pos) spos :: rest) env) Q E s := k_dcomp (swaps_d H.kind (H.ks _ hk) hsw) ZC (cl_of Z hc) (h ZC) hs
end
end
theorem ints_of : ∀ (vs : List Value), (vs.all fun v => match v with | .int _ _ => true | _ => false) = true → ∃ cs : List (Int × Tok), vs = cs.map iV ∧ cs.length = vs.length
  | [], _ => ⟨[], rfl, rfl⟩
  | v :: r, h => by
    rw [List.all_cons, Bool.and_eq_true] at h
    obtain ⟨cs, e, hl⟩ := ints_of r h.2
    cases v with
    | int a t => exact ⟨(a, t) :: cs, by rw [e]; rfl, by simp [hl]⟩
    | _ => cases h.1
theorem ints_own {p : Par} {g : Heap} {s : Shared} {ls : List Loc} {mu : List Own} {c : Addr} {vs : List Value} (C : Cx p g s ls ((c, isPL vs) :: mu)) (h : (vs.all fun v => match v with | .int _ _ => true | _ => false) = true) :
    ∃ cs : List (Int × Tok), Cx p g s ls ((c, isL (cs.map iV)) :: mu) ∧ cs.length = vs.length := by
  obtain ⟨cs, rfl, hl⟩ := ints_of vs h
  exact ⟨cs, C.conv (fun o ⟨n, e⟩ => e ▸ ⟨rfl, n, rfl⟩), hl⟩
theorem map_get {α : Type} {f : α → Value} {xs : List α} {i : Nat} {a : α} (h : xs[i]? = some a) : (xs.map f)[i]? = some (f a) := by rw [List.getElem?_map, h]; rfl
inductive MapJ (f : Nat → Int) : Nat → Heap → List Value → Prop
  | mk {j : Nat} {g : Heap} {zs : List (Int × Tok)} : zs.map (·.1) = (List.range j).map f → MapJ f j g (zs.map iV)
theorem MapJ.nil {f : Nat → Int} {g : Heap} : MapJ f 0 g [] := .mk (zs := []) rfl
theorem MapJ.snoc {f : Nat → Int} {j : Nat} {g g' : Heap} {ys : List Value} {k : Int} {t : Tok} (h : MapJ f j g ys) (e : k = f j) : MapJ f (j + 1) g' (ys ++ [.int k t]) := by
  obtain ⟨h⟩ := h
  rename_i zs
  have := MapJ.mk (f := f) (j := j + 1) (g := g') (zs := zs ++ [(k, t)]) (by rw [List.map_append, h, List.range_succ, List.map_append, e]; rfl)
  rwa [List.map_append] at this
theorem range_map {α β : Type} (xs : List α) (f : α → β) (g : Nat → β) (h : ∀ j x, xs[j]? = some x → g j = f x) : (List.range xs.length).map g = xs.map f := by
  refine List.ext_getElem (by simp) fun i h1 h2 => ?_
  simp only [List.length_map, List.length_range] at h1
  simp only [List.getElem_map, List.getElem_range]
  exact h i _ (List.getElem?_eq_getElem h1)
open AutoSeq1 (wpAny_loadPart')
def gtP (a b c d : Int) : Bool := if a = c then (if b = d then false else decide (b > d)) else decide (a > c)
theorem pair_gt (l b : Addr) (n m : Nat) (a1 a2 c1 c2 : Int) (t1 t2 u1 u2 : Tok) :
    Meets (Builtin.«tuple.__gt__» ⟨[.ref l, .ref b], []⟩) (fun _ R s => s.heap.get? l = some { cls := .type "tuple", dict := none, data := .seq #[.int a1 t1, .int a2 t2] n, slots := #[] } ∧
      s.heap.get? b = some { cls := .type "tuple", dict := none, data := .seq #[.int c1 u1, .int c2 u2] m, slots := #[] } ∧ R (.ok (.ret (.bool (gtP a1 a2 c1 c2)))) s) :=
  .of_wp fun prog w A R s h => by
    obtain ⟨hp, g, d, tk, os⟩ := s; obtain ⟨hl, hb, h⟩ := h
    have f2 := AutoSeq1.sub_tuple_tuple
    wp_walk using wpAny_loadPart' hl, wpAny_loadPart' hb
    have gt : ∀ (a c : Int) (t u : Tok) (s : Shared) (Q : Value → Shared → Prop) (E : Value → Shared → Prop), Q (.bool (decide (a > c))) s → wpAny (model prog w) A.in1 (richCompare .Gt (.int a t) (.int c u)) Q E s := fun a c t u s Q E hq =>
      CmpOf.ints_gt (prog := prog) (w := w) (A := A.in1) (P := fun i v => ∃ t, v = .int (if i = 0 then a else c) t) (fun i => if i = 0 then a else c) (fun i v h => h) 0 1 _ _ _ _ _ ⟨t, rfl⟩ ⟨u, rfl⟩ hq
    show wpAny _ _ (eqBool (.int a1 t1) (.int c1 u1)) _ _ _
    refine wpAny_eqBool_int ?_
    unfold gtP at h
    by_cases e1 : a1 = c1
    · rw [if_pos e1] at h
      rw [show (a1 == c1) = true by simpa using e1]
      dsimp only [Bool.not_true]
      rw [if_neg (by decide)]
      refine wpAny_pure ?_
      dsimp only [List.zipWith, List.forIn'.loop]
      refine wpAny_bind (wpAny_bind ?_)
      refine wpAny_eqBool_int ?_
      by_cases e2 : a2 = c2
      · rw [if_pos e2] at h
        rw [show (a2 == c2) = true by simpa using e2, if_neg (by decide)]
        refine wpAny_pure (wpAny_pure ?_)
        exact wpAny_pure ⟨_, rfl, h⟩
      · rw [if_neg e2] at h
        rw [show (a2 == c2) = false by simpa using e2, if_pos (by decide)]
        refine wpAny_bind (wpAny_rule (wpAny_bind (gt _ _ _ _ _ _ _ ?_)))
        exact wpAny_bind (wpAny_pure (wpAny_pure (wpAny_pure (wpAny_pure ⟨_, rfl, h⟩))))
    · rw [if_neg e1] at h
      rw [show (a1 == c1) = false by simpa using e1, if_pos (by decide)]
      refine wpAny_bind (wpAny_rule (wpAny_bind (gt _ _ _ _ _ _ _ ?_)))
      exact wpAny_bind (wpAny_pure (wpAny_pure (wpAny_pure (wpAny_pure ⟨_, rfl, h⟩))))
theorem rc_gt {prog : Program} {w : World} {A : Around} {E : Value → Shared → Prop} {s : Shared} {l b : Addr} {a1 a2 c1 c2 : Int} {t1 t2 u1 u2 : Tok} {Q : Value → Shared → Prop} (hu : A.units < cLine)
    (hl : OAt s.heap l (isPT [.int a1 t1, .int a2 t2])) (hb : OAt s.heap b (isPT [.int c1 u1, .int c2 u2])) (h : Q (.bool (gtP a1 a2 c1 c2)) s) : wpAny (model prog w) A (richCompare .Gt (.ref l) (.ref b)) Q E s := by
  obtain ⟨o, e, n, rfl⟩ := hl
  obtain ⟨o', e', m, rfl⟩ := hb
  exact richCompare_meets_room (op := .Gt) ⟨_, e, rfl⟩ ⟨_, e', rfl⟩ PySem.F.slot_tuple_gt PySem.F.entry_tuple_gt (PySem.F.args_tuple_gt_2 _ _) (pair_gt l b n m a1 a2 c1 c2 t1 t2 u1 u2)
    ⟨e, e', show Value.bool (gtP a1 a2 c1 c2) ≠ Value.notImplemented ∧ Q _ s from ⟨(fun x => nomatch x), h⟩⟩ hu
theorem gtP_iff (a b c d : Int) : gtP a b c d = true ↔ a > c ∨ (a = c ∧ b > d) := by
  unfold gtP
  split
  · split
    · constructor <;> intro h <;> first | (cases h; done) | omega
    · rw [decide_eq_true_iff]; omega
  · rw [decide_eq_true_iff]; omega
theorem gtP_no (a b c d : Int) : gtP a b c d = false ↔ a < c ∨ (a = c ∧ b ≤ d) := by
  rw [← Bool.not_eq_true, gtP_iff]; omega
section
variable {prog : Program} {w : World} {A : Around} {E : Value → Shared → Prop} {p : Par} {g : Heap} {s : Shared} {ls : List Loc} {mu : List Own} {it S : Addr} {n : Nat} {P : Nat → Obj → Prop} {V : Nat → Value → Prop} {R : Result → Shared → Prop}
abbrev PairAt (g : Heap) (x y : Int) (v : Value) : Prop := ∃ a t u, v = .ref a ∧ OAt g a (isPT [.int x t, .int y u])
theorem max_loop (X : Src prog w A.in1 g it n P V) (kx ky : Nat → Int) (hV : ∀ i v, V i v → PairAt g (kx i) (ky i) v) (hu : A.in1.units < cLine)
    (fin : ∀ i v s', i < n → PairAt g (kx i) (ky i) v → (∀ m, m < n → gtP (kx m) (ky m) (kx i) (ky i) = false) → Cx p g s' ls mu → R (.ok (.ret v)) s') :
    ∀ (k j i : Nat) (s : Shared) (vb : Value), n - (j + 1) = k → j + 1 ≤ n → Cx p g s ls ((it, P (j + 1)) :: (S, isPL [vb, vb]) :: mu) → PairAt g (kx i) (ky i) vb → i ≤ j → (∀ m, m ≤ j → gtP (kx m) (ky m) (kx i) (ky i) = false) →
      codeAny (model prog w) A (.builtin "max.loop" ⟨[.ref it, .none, .ref S], []⟩) R s := by
  have hname : (toString "max" ++ toString ".loop" : String) = "max.loop" := by decide
  intro k
  induction k with
  | zero =>
    intro j i s vb hk hj C hb hij hbest
    have e : j + 1 = n := by omega
    refine codeAny_builtin PySem.F.entry_max_loop ?_
    rw [Around.under_plainId PySem.F.plain_max_loop _]
    obtain ⟨o, ho, m, rfl⟩ := C.my (.tail _ (.head _))
    show wpAny _ A.in1 (seqItems? (.ref S) >>= _) _ _ s
    refine wpAny_bind (wpAny_seqItems ho rfl ?_)
    show wpAny _ A.in1 (tryCatch (pyNext (.ref it)) _ >>= _) _ _ s
    rw [e] at C
    refine wpAny_bind (wpAny_tryCatch (X.done p g s ls _ _ _ (stays_refl g) C fun s₁ C₁ => ?_).out)
    obtain ⟨o₁, ho₁, m₁, rfl⟩ := C₁.at
    show wpAny _ A.in1 (updateSeq S (fun _ => #[]) >>= _) _ _ _
    refine wpAny_bind (wpAny_updateSeq ho₁ rfl (wpAny_bind (wpAny_letGo (wpAny_pure ?_))))
    exact fin i vb _ (by omega) hb (fun m hm => hbest m (by omega)) (C₁.gone (t := s₁.toks) (Heap.SameBut.update ..).extBut)
  | succ k ih =>
    intro j i s vb hk hj C hb hij hbest
    have hlt : j + 1 < n := by omega
    refine codeAny_builtin PySem.F.entry_max_loop ?_
    rw [Around.under_plainId PySem.F.plain_max_loop _]
    obtain ⟨o, ho, m, rfl⟩ := C.my (.tail _ (.head _))
    show wpAny _ A.in1 (seqItems? (.ref S) >>= _) _ _ s
    refine wpAny_bind (wpAny_seqItems ho rfl ?_)
    show wpAny _ A.in1 (tryCatch (pyNext (.ref it)) _ >>= _) _ _ s
    refine wpAny_bind (wpAny_tryCatch (X.next p (j + 1) g s ls _ _ _ hlt (stays_refl g) C fun v s₁ hv C₁ => ?_).out)
    have hv := hV _ _ hv
    obtain ⟨a, t, u, rfl, ha⟩ := id hv
    obtain ⟨b, t', u', rfl, hb'⟩ := id hb
    show wpAny _ A.in1 (tryCatch (holding [.ref a, .ref a] (richCompare .Gt (.ref a) (.ref b) >>= _)) _ >>= _) _ _ _
    refine wpAny_bind (wpAny_tryCatch (wpAny_holding (wpAny_bind (rc_gt hu (ha.mono C₁.gh) (hb'.mono C₁.gh) ?_))))
    refine wpAny_bind (wpAny_holding (wpAny_truthy_bool ?_))
    refine wpAny_bind (wpAny_letGo (wpAny_pure ?_))
    cases hg : gtP (kx (j + 1)) (ky (j + 1)) (kx i) (ky i) with
    | true =>
      simp only [if_true]
      have C₂ := C₁.perm (List.Perm.swap _ _ _)
      obtain ⟨o₁, ho₁, m₁, rfl⟩ := C₂.at
      refine wpAny_bind ?_
      refine wpAny_updateSeq ho₁ rfl (wpAny_bind (wpAny_letGo ?_))
      rw [hname]
      refine wpAny_pure ⟨plainId_quiet PySem.F.plain_max_loop _, ih (j + 1) (j + 1) _ (.ref a) (by omega) hlt ?_ hv (Nat.le_refl _) fun m hm => ?_⟩
      · exact (C₂.turn (t := s₁.toks) (Heap.SameBut.update ..).extBut (Heap.get?_update_self _ ho₁ rfl) ⟨_, rfl⟩).perm (List.Perm.swap _ _ _)
      · rw [gtP_iff] at hg
        rcases Nat.lt_or_eq_of_le hm with h | rfl
        · have := hbest m (by omega)
          rw [gtP_no] at this ⊢
          omega
        · rw [gtP_no]; omega
    | false =>
      simp only [Bool.false_eq_true, if_false]
      refine wpAny_bind (wpAny_letGo ?_)
      rw [hname]
      refine wpAny_pure ⟨plainId_quiet PySem.F.plain_max_loop _, ih (j + 1) i _ (.ref b) (by omega) hlt C₁ hb (by omega) fun m hm => ?_⟩
      rcases Nat.lt_or_eq_of_le hm with h | rfl
      · exact hbest m (by omega)
      · exact hg
theorem c_max {l : Addr} {vs : List Value} {Q : Value → Shared → Prop} (hA : A.handled = none) (hu : A.in1.units < cLine) (C : Cx p g s ls mu) (hL : g.IsList l vs.toArray) (hn : 0 < vs.length) (kx ky : Nat → Int) (hV : ∀ i v, vs[i]? = some v → PairAt g (kx i) (ky i) v)
    (h : ∀ i v s' u', i < vs.length → PairAt g (kx i) (ky i) v → (∀ m, m < vs.length → gtP (kx m) (ky m) (kx i) (ky i) = false) → Cx p g s' ls mu → Q v (tk s' u')) : WP (model prog w) A (call (.builtin "max") [.ref l]) Q E s := by
  have hname : (toString "max" ++ toString ".loop" : String) = "max.loop" := by decide
  constructor
  refine call_function_tree PySem.F.kind_max PySem.F.plain_max PySem.F.entry_max (PySem.F.args_max1 _) ?_
  show wpAny _ A.in1 (Builtin.Builtins.bindParams "max" ["key", "default"] 0 ⟨[], []⟩ >>= _) _ _ s
  refine wpAny_bind (wpAny_of_eq (show Builtin.Builtins.bindParams "max" ["key", "default"] 0 ⟨[], []⟩ = pure [none, none] from rfl) ?_)
  refine wpAny_bind (wpAny_pure ?_)
  refine wpAny_bind (it_list C (hL.at fun o e => C.gh _ _ e) fun it s₁ u₁ C₁ => ?_).out
  refine wpAny_bind (wpAny_newObj_type ?_)
  obtain ⟨s₂, hs₂, C₂⟩ : ∃ s₂, s₂ = tk s₁ u₁ ∧ Cx p g s₂ ls ((it, isLI l 0) :: mu) := ⟨_, rfl, C₁.tk⟩
  rw [← hs₂]
  have C₃ := C₂.alloc (t := s₂.toks) (o := { cls := .type "list", data := .seq ([] : List Value).toArray }) (P := isPL []) ⟨0, rfl⟩ rfl
  generalize s₂.heap.objs.size = S at C₃
  rw [hname]
  have X : Src prog w A.in1 g it vs.length (isLI l) (fun i v => vs[i]? = some v) := Src.list hA hL
  refine wpAny_pure ⟨plainId_quiet PySem.F.plain_max_loop _, ?_⟩
  refine codeAny_builtin PySem.F.entry_max_loop ?_
  rw [Around.under_plainId PySem.F.plain_max_loop _]
  have C₄ := C₃.perm (List.Perm.swap _ _ _)
  obtain ⟨o, ho, m, rfl⟩ := C₃.at
  show wpAny _ A.in1 (seqItems? (.ref S) >>= _) _ _ _
  refine wpAny_bind (wpAny_seqItems ho rfl ?_)
  show wpAny _ A.in1 (tryCatch (pyNext (.ref it)) _ >>= _) _ _ _
  refine wpAny_bind (wpAny_tryCatch (X.next p 0 g _ ls _ _ _ hn (stays_refl g) C₄ fun v s₅ hv C₅ => ?_).out)
  have C₆ := C₅.perm (List.Perm.swap _ _ _)
  obtain ⟨o₁, ho₁, m₁, rfl⟩ := C₆.at
  show wpAny _ A.in1 (updateSeq S (fun _ => #[v, v]) >>= _) _ _ _
  refine wpAny_bind ?_
  refine wpAny_updateSeq ho₁ rfl ?_
  rw [hname]
  refine wpAny_pure ⟨plainId_quiet PySem.F.plain_max_loop _, ?_⟩
  refine max_loop (p := p) (ls := ls) (mu := mu) X kx ky hV hu ?_ _ 0 0 _ v rfl hn ?_ (hV 0 v hv) (Nat.le_refl _) fun m hm => ?_
  · exact fun i v s' hi hv hm C' => h i v s' s'.toks hi hv hm C'
  · exact (C₆.turn (t := s₅.toks) (Heap.SameBut.update ..).extBut (Heap.get?_update_self _ ho₁ rfl) ⟨_, rfl⟩).perm (List.Perm.swap _ _ _)
  · have : m = 0 := Nat.le_zero.mp hm
    subst this
    rw [gtP_no]; omega
end
section
variable {prog : Program} {w : World} {A : Around} {E : Value → Shared → Prop} {p : Par} {g : Heap} {s : Shared} {ls : List Loc} {mu : List Own} {env : Env} {pos pos' : Pos} {Q : Value → Shared → Prop} {value lo : Expr}
theorem l_from (h : WP (model prog w) A (eval value env) (fun o s₁ => WP (model prog w) A (eval lo env) (fun v s₂ => ∃ (l : Addr) (vs : List Value) (k : Nat) (t : Tok) (p : Par) (g : Heap) (ls : List Loc) (mu : List Own), o = .ref l ∧ s₂.heap.IsList l vs.toArray ∧ v = .int (k : Int) t ∧ vs.length ≤ 1000 ∧ Cx p g s₂ ls mu ∧
      ∀ s' u' a, Cx p g s' ls ((a, isPL (vs.drop k)) :: mu) → Q (.ref a) (tk s' u')) E s₁) E s) (ht : ∀ o r, letTemporaryGo value o r = pure ()) : WP (model prog w) A (eval (.Subscript value (.Slice (some lo) none none pos') pos) env) Q E s :=
  l_slice (h.mono fun o s₁ h₁ => p_some (h₁.mono fun v s₂ h₂ => p_none (by
    obtain ⟨l, vs, k, t, p, g, ls, mu, rfl, hL, rfl, hn, C, hQ⟩ := h₂
    refine ⟨l, vs, some (k : Int), none, p, g, ls, mu, rfl, hL, .int _ _, .none, hn, C, ?_⟩
    rw [slicePick_from']
    exact hQ))) ht
theorem l_upto (h : WP (model prog w) A (eval value env) (fun o s₁ => WP (model prog w) A (eval lo env) (fun v s₂ => ∃ (l : Addr) (vs : List Value) (k : Nat) (t : Tok) (p : Par) (g : Heap) (ls : List Loc) (mu : List Own), o = .ref l ∧ s₂.heap.IsList l vs.toArray ∧ v = .int (k : Int) t ∧ vs.length ≤ 1000 ∧ Cx p g s₂ ls mu ∧
      ∀ s' u' a, Cx p g s' ls ((a, isPL (vs.take k)) :: mu) → Q (.ref a) (tk s' u')) E s₁) E s) (ht : ∀ o r, letTemporaryGo value o r = pure ()) : WP (model prog w) A (eval (.Subscript value (.Slice none (some lo) none pos') pos) env) Q E s :=
  l_slice (h.mono fun o s₁ h₁ => p_none (p_some (h₁.mono fun v s₂ h₂ => (by
    obtain ⟨l, vs, k, t, p, g, ls, mu, rfl, hL, rfl, hn, C, hQ⟩ := h₂
    refine ⟨l, vs, none, some (k : Int), p, g, ls, mu, rfl, hL, .none, .int _ _, hn, C, ?_⟩
    rw [slicePick_upto']
    exact hQ)))) ht
/-- list(d): the keys -/
theorem c_listd {kvs : List (Str × Value)} {d : Addr} (hA : A.handled = none) (C : Cx p g s ls mu) (hD : s.heap.DictOf (strKind prog w) d kvs) (hd : (d == sysModules) = false) (hn : kvs.length ≤ 1000)
    (h : ∀ s' u' a (ks : List (Str × Tok)), ks.map (·.1) = kvs.map (·.1) → Cx p g s' ls ((a, isPL (ks.map sV)) :: mu) → Q (.ref a) (tk s' u')) : WP (model prog w) A (call (.type "list") [.ref d]) Q E s := by
  obtain ⟨ep, hE⟩ := hD.dictAt
  constructor
  refine kdl_call (kdl_dict hd) hA hE (fits _ hn) fun h' k acc' c' hk ho hI => ?_
  have key : ∀ (vs : List Value) (l : List (Str × Value)), vs.length = l.length → (∀ (i : Nat) (v : Value), vs[i]? = some v → ∃ k x, l[i]? = some (k, x) ∧ (strKind prog w).is k v = true) → ∃ ks : List (Str × Tok), vs = ks.map sV ∧ ks.map (·.1) = l.map (·.1) := by
    intro vs
    induction vs with
    | nil => intro l hl _; cases l with
      | nil => exact ⟨[], rfl, rfl⟩
      | cons _ _ => cases hl
    | cons v r ih => intro l hl hv; cases l with
      | nil => cases hl
      | cons q l =>
        obtain ⟨ks, e1, e2⟩ := ih l (by simpa using hl) fun i v h => hv (i + 1) v (by simpa using h)
        obtain ⟨k, x, h1, h2⟩ := hv 0 v rfl
        cases h1
        have h2 : Value.isStrOf k v = true := h2
        have : ∃ t, v = .str k t := by
          cases v with
          | str y t => exact ⟨t, by simp [Value.isStrOf] at h2; rw [h2]⟩
          | _ => simp [Value.isStrOf] at h2
        obtain ⟨t, rfl⟩ := this
        exact ⟨(k, t) :: ks, by rw [e1]; rfl, by simp [e2]⟩
  obtain ⟨ks, e1, e2⟩ := key acc'.toList kvs (by simpa using hI.1) fun i v hv => hI.2 i v (by simpa using hv)
  have C' : Cx p g { s with heap := h', toks := k } ls mu := C.grow rfl rfl rfl hk
  exact h _ k _ ks e2 (C.add C' (get_size _) ho ⟨c', by rw [← e1]⟩ (C.fresh (get_size _)))
end
/-- a block in two parts -/
theorem execs_wp {M : Model} {A : Around} {E : Value → Shared → Prop} {env : Env} {Q : Flow → Shared → Prop} {b : List Stmt} {Γ : Ctx} (hΓ : Γ.In A) : ∀ (a : List Stmt) (p : Pos) (s : Shared),
    Sem.wp M Γ (execs a env) (fun f _ s' => Then M A b env Q E f s') (fun e _ s' => E e s') p s → Sem.wp M Γ (execs (a ++ b) env) (fun f _ s' => Q f s') (fun e _ s' => E e s') p s
  | [], p, s, h => by
    have h : Then M A b env Q E .next s := h
    exact h.out Γ p hΓ
  | st :: a, p, s, h => by
    rw [execs_cons, Sem.wp_bind'] at h
    rw [List.cons_append, execs_cons, Sem.wp_bind']
    refine Sem.wp_mono M Γ _ (fun f p' s' h' => ?_) (fun _ _ _ h' => h') _ _ h
    cases f <;> first | exact execs_wp hΓ a p' s' h' | exact h'
section
variable {M : Model} {prog : Program} {w : World} {A : Around} {E : Value → Shared → Prop} {p : Par} {g g' : Heap} {s : Shared} {ls ls' : List Loc} {mu mu' : List Own} {env : Env} {pos : Pos} {N n : Nat}
theorem execs_cut {a b : List Stmt} {Q : Flow → Shared → Prop} (h : WP M A (execs a env) (Then M A b env Q E) E s) : WP M A (execs (a ++ b) env) Q E s := ⟨fun Γ p hΓ => execs_wp hΓ a p s (h.out Γ p hΓ)⟩
theorem execs_ge {a b : List Stmt} {Q : Flow → Shared → Prop} (hn : N ≤ s.toks) (h : WP M A (execs a env) (fun f s' => N ≤ s'.toks → Then M A b env Q E f s') E s) : WP M A (execs (a ++ b) env) Q E s := execs_cut (WP.ge hn h)
abbrev isSI (x : Str) (t : Tok) (i : Nat) : Obj → Prop := fun o => o.cls = .type "str_ascii_iterator" ∧ o.data = .fields #[.str x t, .int i 0]
theorem Src.str {it : Addr} {x : Str} {t : Tok} (hA : A.handled = none) : Src prog w A g it x.cps.size (isSI x t) (fun i v => ∃ c u, x.cps[i]? = some c ∧ v = .str ⟨#[c]⟩ u) where
  next := fun _ i g' s ls mu Q E hi hg C h => by
    have h1 : s.heap.IsStrIter it "str_ascii_iterator" x t i := C.at
    constructor
    refine wpAny_pyNext_ascii_item h1 (Array.getElem?_eq_getElem hi) fun h' hi' hs' => h _ _ ⟨_, _, Array.getElem?_eq_getElem hi, rfl⟩ ?_
    obtain ⟨o', e', q⟩ := hi'
    exact C.turn (t := s.toks + 1) hs'.extBut e' q
  done := fun _ g' s ls mu Q E hg C h => by
    have h1 : s.heap.IsStrIter it "str_ascii_iterator" x t x.cps.size := C.at
    constructor
    exact wpAny_pyNext_ascii_end hA h1 (by simp) fun h' he' => h _ (C.gone (t := s.toks) he')
  self := fun _ i g' s ls mu Q E hg C h => by
    have h1 : s.heap.IsStrIter it "str_ascii_iterator" x t i := C.at
    exact ⟨wpAny_pyIter_striter_ascii h1 h⟩
theorem it_str {x : Str} {t : Tok} (C : Cx p g s ls mu) (ha : x.cps.all (· < 128) = true) {Q : Value → Shared → Prop} (h : ∀ it s' u', Cx p g s' ls ((it, isSI x t 0) :: mu) → Q (.ref it) (tk s' u')) : WP (model prog w) A (pyIter (.str x t)) Q E s := by
  constructor
  have C' : Cx p g { s with heap := s.heap.push { cls := .type "str_ascii_iterator", data := .fields #[.str x t, .int 0 0] } } ls ((s.heap.objs.size, isSI x t 0) :: mu) := C.alloc (t := s.toks) ⟨rfl, rfl⟩ rfl
  exact wpAny_pyIter_ascii ha (h _ _ s.toks C')
/-- displays that tell how many tokens are drawn -/
theorem l_listN {elts : List Expr} {Q : Value → Shared → Prop} (h : WP M A (spliced (backTo pos (starEach elts env))) (fun vs s₁ => vs.length ≤ 1000 ∧ N ≤ s₁.toks ∧ ∃ p g ls mu, Cx p g s₁ ls mu ∧ ∀ s' u' a, N ≤ u' → Cx p g s' ls ((a, isPL vs) :: mu) → Q (.ref a) (tk s' u')) E s) : WP M A (eval (.List elts pos) env) Q E s :=
  l_disp (h.mono fun vs s₁ ⟨h1, hN, p, g, ls, mu, C, h2⟩ => ⟨h1, h2 _ s₁.toks _ hN (C.alloc (t := s₁.toks) ⟨0, rfl⟩ rfl)⟩)
theorem l_tupleN {elts : List Expr} {k : Nat} {Q : Value → Shared → Prop} (h : WP M A (spliced (backTo pos (starEach elts env))) (fun vs s₁ => vs.length ≤ 1000 ∧ N ≤ s₁.toks ∧ ∃ p g ls mu, Cx p g s₁ ls mu ∧ ∀ s' u' a, N ≤ u' → Cx p g s' ls ((a, isPT vs) :: mu) → Q (.ref a) (tk s' u')) E s) : WP M A (eval (.Tuple elts k pos) env) Q E s :=
  l_tup (h.mono fun vs s₁ ⟨h1, hN, p, g, ls, mu, C, h2⟩ => ⟨h1, h2 _ s₁.toks _ hN (C.alloc (t := s₁.toks) ⟨0, rfl⟩ rfl)⟩)
/-- x, y = .. -/
theorem k_two {x y : Str} {px py pt : Pos} {x1 : Nat} {value : Expr} {rest : List Stmt} {Q : Flow → Shared → Prop}
    (h : WP M A (eval value env) (fun v s₁ => WP M A (assign (.Tuple [.Name x px, .Name y py] x1 pt) env v) (fun _ s₂ => WP M A (execs rest env) Q E s₂) E s₁) E s)
    (he : (assignEach [.Tuple [.Name x px, .Name y py] x1 pt] env).map (·.2) = [assign (.Tuple [.Name x px, .Name y py] x1 pt) env])
    (hs : swapsWithSole [.Tuple [.Name x px, .Name y py] x1 pt] value pos.line env = pure false) (hw : swappedStores [.Tuple [.Name x px, .Name y py] x1 pt] value env = pure none) :
    WP M A (execs (.Assign [.Tuple [.Name x px, .Name y py] x1 pt] value pos :: rest) env) Q E s := by
  refine k_cons ⟨wpAny_Assign_stores (h.by fun v s₁ h₁ => ?_) hs hw⟩
  rw [he]
  exact h₁.by fun _ s₂ h₂ => Then.next h₂
/-- != of two tables of tables that hold alike -/
theorem valueAt_in {kws : List (Str × Value)} (hn : (kws.map (·.1)).Nodup) {q : Str × Value} (hq : q ∈ kws) : valueAt kws q.1 = some q.2 := by
  unfold valueAt
  cases e : kws.find? fun kv => decide (kv.1 = q.1) with
  | none => have := List.find?_eq_none.mp e q hq; simp at this
  | some q' =>
    have h1 := List.mem_of_find?_eq_some e
    have h2 : q'.1 = q.1 := by simpa using List.find?_some e
    obtain ⟨i, hi⟩ := List.getElem?_of_mem hq
    obtain ⟨j, hj⟩ := List.getElem?_of_mem h1
    have e1 : (kws.map (·.1))[i]? = some q.1 := by rw [List.getElem?_map, hi]; rfl
    have e2 : (kws.map (·.1))[j]? = some q.1 := by rw [List.getElem?_map, hj, ← h2]; rfl
    have := (List.getElem?_inj (List.getElem?_eq_some_iff.mp e1).1 hn).mp (e1.trans e2.symm)
    subst this
    rw [hi] at hj
    cases hj
    rfl
theorem hits_same {kws : List (Str × Value)} (hn : (kws.map (·.1)).Nodup) : ∀ (r : List (Str × Value)), (∀ q ∈ r, q ∈ kws) → KeqHits A s kws r true
  | [], _ => .nil
  | q :: r, h => .hit (valueAt_in hn (h q (.head _))) (SeqAt.EqAt.same _) (hits_same hn r fun q' hq' => h q' (.tail _ hq'))
theorem eq_refs {a b : Addr} {Q : Bool → Shared → Prop} (hne : a ≠ b) (h : wpAny (model prog w) A (richCompare .Eq (.ref a) (.ref b)) (fun v s' => v = .bool true ∧ Q true s') E s) : wpAny (model prog w) A (eqBool (.ref a) (.ref b)) Q E s := by
  unfold eqBool
  refine wpAny_holding ?_
  refine wpAny_ite_split (fun e => absurd (by have := eq_of_beq e; injection this) hne) (fun _ => ?_)
  refine wpAny_bind (wpAny_mono h (fun v s' x => ?_) fun _ _ x => x)
  obtain ⟨rfl, x⟩ := x
  exact wpAny_truthy_bool x
theorem eq_copy {a b : Addr} {kws : List (Str × Value)} {Q : Bool → Shared → Prop} (hu : A.units < cLine) (ha : (a == sysModules) = false) (hb : (b == sysModules) = false) (hne : a ≠ b) (da : s.heap.DictOf (strKind prog w) a kws) (db : s.heap.DictOf (strKind prog w) b kws) (hQ : Q true s) :
    wpAny (model prog w) A (eqBool (.ref a) (.ref b)) Q E s := by
  refine eq_refs hne ?_
  have hn : (kws.map (·.1)).Nodup := by obtain ⟨_, _, _, _, _, _, _, _, h⟩ := da; exact h
  exact keq_eq (r := true) ha hb da db hu (fun _ => hits_same hn kws fun _ h => h) ⟨by simp, hQ⟩
/-- two tables that hold alike -/
theorem pairs_same {nm : String} {a b : Addr} {ka kb : List (Str × Value)} {Q : Bool → Shared → Prop} (ha : (a == sysModules) = false) (hb : (b == sysModules) = false) (da : s.heap.DictOf (strKind prog w) a ka) (db : s.heap.DictOf (strKind prog w) b kb) (hl : ka.length = kb.length)
    (hits : ∀ q ∈ ka, ∃ y, valueAt kb q.1 = some y ∧ ∀ (E : Value → Shared → Prop) (Q : Bool → Shared → Prop), Q true s → wpAny (model prog w) A (eqBool q.2 y) Q E s) (h : Q true s) : wpAny (model prog w) A (Builtin.Dict.samePairs nm a b) Q E s := by
  obtain ⟨oa, es, ep, hoa, _, hda, hka, hpa, _⟩ := da
  obtain ⟨ob, fs, ep', hob, _, hdb, hkb, hpb, _⟩ := db
  have la : es.size = ka.length := by have := hpa.length; simpa using this
  have lb : fs.size = kb.length := by have := hpb.length; simpa using this
  unfold Builtin.Dict.samePairs Builtin.Dict.showsAll
  rw [if_neg (by rw [ha]; exact Bool.false_ne_true), if_neg (by rw [hb]; exact Bool.false_ne_true)]
  refine wpAny_bind (wpAny_pure (wpAny_bind (wpAny_pure (wpAny_bind (wpAny_dictEntries hoa hda ?_)))))
  dsimp only
  refine wpAny_bind (wpAny_dictEntries hob hdb ?_)
  rw [if_neg (by rw [la, lb, hl]; simp)]
  refine wpAny_bind (wpAny_dictEpoch hoa hda (wpAny_bind ?_))
  rw [Std.Legacy.Range.forIn_eq_forIn_range']
  simp only [Std.Legacy.Range.size, Nat.sub_zero, Nat.add_sub_cancel, Nat.div_one]
  refine wpAny_forIn_list _ (fun rest q s' => s' = s ∧ q = (none, ()) ∧ ∃ i, rest = List.range' i (es.size - i)) _ ?_ ?_ _ _ ⟨rfl, rfl, 0, by simp⟩
  · rintro x rest q s' ⟨rfl, rfl, i, hr⟩
    obtain ⟨hi, rfl, hrest⟩ : i < es.size ∧ x = i ∧ rest = List.range' (i + 1) (es.size - (i + 1)) := by
      cases e : es.size - i with
      | zero => rw [e] at hr; cases hr
      | succ m =>
        rw [e, List.range'_succ] at hr
        injection hr with h1 h2
        exact ⟨by omega, h1, by rw [h2]; congr 1; omega⟩
    refine wpAny_bind (wpAny_dictEntries hoa hda ?_)
    rw [Array.getElem?_eq_getElem hi]
    have hx : x < ka.length := by omega
    obtain ⟨hkey, hval⟩ := hpa.get? (i := x) (e := es[x]) (k := ka[x].1) (v := ka[x].2) (by rw [Array.getElem?_toList]; exact Array.getElem?_eq_getElem hi) (List.getElem?_eq_getElem hx)
    obtain ⟨k', hk', hh⟩ := hka es[x] (Array.getElem_mem hi)
    have ek : k' = ka[x].1 := (strKind prog w).inj _ _ _ hk' hkey
    obtain ⟨y, hy, heq⟩ := hits ka[x] (List.getElem_mem hx)
    have hf : (fs.toList.find? fun e => (strKind prog w).is ka[x].1 e.key).map (·.val) = some y := by rw [hpb.find]; exact hy
    show wpAny _ _ (holding [es[x].key, es[x].val] _ >>= _) _ _ _
    rw [hh, ek]
    refine wpAny_bind (wpAny_holding (wpAny_bind (wpAny_dictFind_of hkey hob hdb hkb ?_)))
    cases hj : fs.findIdx? fun e => (strKind prog w).is ka[x].1 e.key with
    | none =>
      have : fs.toList.find? (fun e => (strKind prog w).is ka[x].1 e.key) = none := by
        rw [List.find?_eq_none]
        intro e he
        have := Array.findIdx?_eq_none_iff.mp hj e (Array.mem_toList_iff.mp he)
        simpa using this
      rw [this] at hf; cases hf
    | some j =>
      obtain ⟨hjl, hjk, hjm⟩ := Array.findIdx?_eq_some_iff_getElem.mp hj
      have hv : fs[j].val = y := by
        have : fs.toList.find? (fun e => (strKind prog w).is ka[x].1 e.key) = some fs[j] := by
          rw [List.find?_eq_some_iff_getElem]
          exact ⟨hjk, j, by simpa using hjl, by simp, fun m hm => by have := hjm m hm; simpa using this⟩
        rw [this] at hf
        exact Option.some.inj hf
      refine wpAny_bind (wpAny_dictEntries hob hdb ?_)
      rw [Array.getElem?_eq_getElem hjl]
      refine wpAny_holding ?_
      rw [hval, hv]
      refine heq _ _ ?_
      show wpAny _ _ (if (!true) = true then _ else _) _ _ _
      rw [if_neg (by decide)]
      refine wpAny_bind (wpAny_dictEpoch hoa hda ?_)
      rw [if_neg (by simp)]
      exact wpAny_pure ⟨rfl, rfl, x + 1, hrest⟩
  · rintro q s' ⟨rfl, rfl, _⟩
    exact wpAny_pure h
theorem c_same {a b : Addr} {ka kb : List (Str × Value)} {Q : Value → Shared → Prop} (hu : A.units < cLine) (ha : (a == sysModules) = false) (hb : (b == sysModules) = false) (da : s.heap.DictOf (strKind prog w) a ka) (db : s.heap.DictOf (strKind prog w) b kb) (hl : ka.length = kb.length)
    (hits : ∀ q ∈ ka, ∃ y, valueAt kb q.1 = some y ∧ ∀ (E : Value → Shared → Prop) (Q : Bool → Shared → Prop), Q true s → wpAny (model prog w) A.in1 (eqBool q.2 y) Q E s) (h : Q (.bool false) s) : WP (model prog w) A (compareOp .NotEq (.ref a) (.ref b)) Q E s := by
  constructor
  refine wpAny_richCompare_same_room (op := .NotEq) da.typeIs db.typeIs PySem.F.slot_dict_ne (wpAny_call_entry PySem.F.slot_dict_ne da.typeIs PySem.F.entry_dict_ne ?_ (PySem.F.args_dict_ne_2 _ _)) hu
  show wpAny _ _ (Builtin.Dict.dictSlotArgs "__ne__" ⟨[.ref a, .ref b], []⟩ >>= _) _ _ s
  refine wpAny_bind ?_
  unfold Builtin.Dict.dictSlotArgs
  refine wpAny_bind (wpAny_notOrdered_dict da.typeIs ?_)
  show wpAny _ _ (pure (Value.ref a, Value.ref b)) _ _ s
  refine wpAny_pure (wpAny_bind (wpAny_isInstance (T := "dict") db.typeIs PySem.F.sub_dict_dict ?_))
  simp only [Bool.not_true, Bool.false_eq_true, if_false]
  refine wpAny_bind (wpAny_pure (wpAny_bind (wpAny_pure (wpAny_bind (pairs_same ha hb da db hl hits (wpAny_pure ⟨_, rfl, ?_, ?_⟩))))))
  · exact fun x => nomatch x
  · exact h
end
noncomputable abbrev KK (w : World) : Frag := KQ w.params
section
variable {w : World}
theorem gl_lt : nsIn (KK w) mainGlobals "lt" = some (some (.ref 63)) := by kernel_rfl
theorem gl_add : nsIn (KK w) mainGlobals "add" = some (some (.ref 70)) := by kernel_rfl
theorem gl_mul : nsIn (KK w) mainGlobals "mul" = some (some (.ref 77)) := by kernel_rfl
theorem gl_neg : nsIn (KK w) mainGlobals "neg" = some (some (.ref 84)) := by kernel_rfl
theorem gl_sub : nsIn (KK w) mainGlobals "sub" = some (some (.ref 91)) := by kernel_rfl
theorem gl_concat : nsIn (KK w) mainGlobals "concat" = some (some (.ref 98)) := by kernel_rfl
theorem gl_indexOf : nsIn (KK w) mainGlobals "indexOf" = some (some (.ref 105)) := by kernel_rfl
theorem gl_subst : nsIn (KK w) mainGlobals "_substitution_cost" = some (some (.ref 112)) := by kernel_rfl
theorem gl_lev : nsIn (KK w) mainGlobals "_levenshtein_distance" = some (some (.ref 119)) := by kernel_rfl
theorem gl_cells : nsIn (KK w) mainGlobals "_law_cells" = some (some (.ref 126)) := by kernel_rfl
theorem gl_word : nsIn (KK w) mainGlobals "_law_word" = some (some (.ref 133)) := by kernel_rfl
theorem gl_place : nsIn (KK w) mainGlobals "_law_place" = some (some (.ref 140)) := by kernel_rfl
theorem gl_rows : nsIn (KK w) mainGlobals "_law_rows" = some (some (.ref 145)) := by kernel_rfl
theorem gl_called : nsIn (KK w) mainGlobals "_law_called" = some (some (.ref 150)) := by kernel_rfl
theorem gl_joined : nsIn (KK w) mainGlobals "_law_joined" = some (some (.ref 155)) := by kernel_rfl
theorem gl_cuts : nsIn (KK w) mainGlobals "_law_cuts" = some (some (.ref 160)) := by kernel_rfl
theorem gl_turn : nsIn (KK w) mainGlobals "_law_in_turn" = some (some (.ref 165)) := by kernel_rfl
theorem gl_least : nsIn (KK w) mainGlobals "_law_least" = some (some (.ref 170)) := by kernel_rfl
theorem gl_callers : nsIn (KK w) mainGlobals "add_callers" = some (some (.ref 49)) := by kernel_rfl
theorem gl_count : nsIn (KK w) mainGlobals "count_calls" = some (some (.ref 56)) := by kernel_rfl
theorem gl_comp : nsIn (KK w) mainGlobals "TupleComp" = some (some (.ref 38)) := by kernel_rfl
theorem gl_max : nsIn (KK w) mainGlobals "_MAX_STRING_SIZE" = some (some (.int 40 313)) := by kernel_rfl
theorem gl_move : nsIn (KK w) mainGlobals "_MOVE_COST" = some (some (.int 2 315)) := by kernel_rfl
theorem gl_case : nsIn (KK w) mainGlobals "_CASE_COST" = some (some (.int 1 317)) := by kernel_rfl
theorem bl_len : nsIn (KK w) mainGlobals "len" = some none ∧ bootBuiltins "len" = some (.builtin "len") ∧ ("len" : Str) ≠ "__name__" := ⟨by kernel_rfl, by first | boot_by_name | rfl | kernel_rfl, by decide +kernel⟩
theorem bl_range : nsIn (KK w) mainGlobals "range" = some none ∧ bootBuiltins "range" = some (.type "range") ∧ ("range" : Str) ≠ "__name__" := ⟨by kernel_rfl, by first | boot_by_name | rfl | kernel_rfl, by decide +kernel⟩
theorem bl_min : nsIn (KK w) mainGlobals "min" = some none ∧ bootBuiltins "min" = some (.builtin "min") ∧ ("min" : Str) ≠ "__name__" := ⟨by kernel_rfl, by first | boot_by_name | rfl | kernel_rfl, by decide +kernel⟩
theorem bl_max : nsIn (KK w) mainGlobals "max" = some none ∧ bootBuiltins "max" = some (.builtin "max") ∧ ("max" : Str) ≠ "__name__" := ⟨by kernel_rfl, by first | boot_by_name | rfl | kernel_rfl, by decide +kernel⟩
theorem bl_sum : nsIn (KK w) mainGlobals "sum" = some none ∧ bootBuiltins "sum" = some (.builtin "sum") ∧ ("sum" : Str) ≠ "__name__" := ⟨by kernel_rfl, by first | boot_by_name | rfl | kernel_rfl, by decide +kernel⟩
theorem bl_abs : nsIn (KK w) mainGlobals "abs" = some none ∧ bootBuiltins "abs" = some (.builtin "abs") ∧ ("abs" : Str) ≠ "__name__" := ⟨by kernel_rfl, by first | boot_by_name | rfl | kernel_rfl, by decide +kernel⟩
theorem bl_list : nsIn (KK w) mainGlobals "list" = some none ∧ bootBuiltins "list" = some (.type "list") ∧ ("list" : Str) ≠ "__name__" := ⟨by kernel_rfl, by first | boot_by_name | rfl | kernel_rfl, by decide +kernel⟩
theorem bl_dict : nsIn (KK w) mainGlobals "dict" = some none ∧ bootBuiltins "dict" = some (.type "dict") ∧ ("dict" : Str) ≠ "__name__" := ⟨by kernel_rfl, by first | boot_by_name | rfl | kernel_rfl, by decide +kernel⟩
theorem bl_hasattr : nsIn (KK w) mainGlobals "hasattr" = some none ∧ bootBuiltins "hasattr" = some (.builtin "hasattr") ∧ ("hasattr" : Str) ≠ "__name__" := ⟨by kernel_rfl, by first | boot_by_name | rfl | kernel_rfl, by decide +kernel⟩
theorem bl_isinstance : nsIn (KK w) mainGlobals "isinstance" = some none ∧ bootBuiltins "isinstance" = some (.builtin "isinstance") ∧ ("isinstance" : Str) ≠ "__name__" := ⟨by kernel_rfl, by first | boot_by_name | rfl | kernel_rfl, by decide +kernel⟩
theorem bl_enumerate : nsIn (KK w) mainGlobals "enumerate" = some none ∧ bootBuiltins "enumerate" = some (.type "enumerate") ∧ ("enumerate" : Str) ≠ "__name__" := ⟨by kernel_rfl, by first | boot_by_name | rfl | kernel_rfl, by decide +kernel⟩
theorem bl_tuple : nsIn (KK w) mainGlobals "tuple" = some none ∧ bootBuiltins "tuple" = some (.type "tuple") ∧ ("tuple" : Str) ≠ "__name__" := ⟨by kernel_rfl, by first | boot_by_name | rfl | kernel_rfl, by decide +kernel⟩
end
set_option hygiene false in
local macro_rules | `(tactic| wtm_at "mem") => `(tactic| first | (with_reducible exact List.mem_cons_self) | ((with_reducible refine' List.mem_cons_of_mem _ ?dd); (case dd => wtm_at "mem")))
set_option hygiene false in
local macro_rules | `(tactic| wtm_at "less") => `(tactic| first | (with_reducible exact fun _ h => absurd h List.not_mem_nil) | ((with_reducible refine' List.forall_mem_cons.mpr ⟨?dd, ?ee⟩); (case dd => wtm_at "mem"); (case ee => wtm_at "less")))
set_option hygiene false in
local macro_rules | `(tactic| wtm_at "frs") => `(tactic| first | (with_reducible exact fun _ h => absurd h List.not_mem_nil) | ((with_reducible refine' List.forall_mem_cons.mpr ⟨⟨?dd, ?ff⟩, ?ee⟩); (case dd => wtm_at "mem"); (case ff => wtm_at "mem"); (case ee => wtm_at "frs")))
set_option hygiene false in
local macro_rules | `(tactic| wtm_at "sel") => `(tactic| first | (with_reducible exact Sel.nil) | ((with_reducible refine' Sel.cons ?pp ?ss); (case pp => wtm_at "pick"); (case ss => wtm_at "sel")))
set_option hygiene false in
local macro_rules | `(tactic| wtm_at "tst") => `(tactic| first | with_reducible refine Tst0 ?_ | with_reducible refine Tst1 ?_)
set_option hygiene false in
local macro_rules | `(tactic| wtm_at "drop") => `(tactic| first | (with_reducible exact Drop.nil) | ((with_reducible refine' Drop.hit ?dd); (case dd => wtm_at "drop")) | (refine' Drop.skip (by decide +kernel) ?dd; (case dd => wtm_at "drop")))
set_option hygiene false in
local macro_rules | `(tactic| wtm_at "pick") => `(tactic| first | (with_reducible exact Pick.here) | ((with_reducible refine' Pick.there ?dd); (case dd => wtm_at "pick")))
set_option hygiene false in
local macro_rules | `(tactic| wtm_at "gl") => `(tactic| with_reducible first | exact gl_lt | exact gl_add | exact gl_mul | exact gl_neg | exact gl_sub | exact gl_concat | exact gl_indexOf | exact gl_subst | exact gl_lev | exact gl_cells | exact gl_word | exact gl_place | exact gl_rows | exact gl_called | exact gl_joined | exact gl_cuts | exact gl_turn | exact gl_least | exact gl_callers | exact gl_count | exact gl_comp | exact gl_move | exact gl_case | exact gl_max)
set_option hygiene false in
local macro_rules | `(tactic| wtm_at "bl") => `(tactic| with_reducible first | exact bl_len | exact bl_range | exact bl_min | exact bl_max | exact bl_sum | exact bl_abs | exact bl_list | exact bl_dict | exact bl_hasattr | exact bl_isinstance | exact bl_enumerate | exact bl_tuple)
set_option hygiene false in
local macro_rules | `(tactic| wtm_at "name") => `(tactic| first | ((with_reducible refine' nm_local C H ?hk ?hv ?_ ?hd); (case hk => wtm_at "mem"); (case hv => wtm_at "mem"); (case hd => kernel_rfl)) | ((with_reducible refine' nm_global B C H ?hk ?hv ?_ ?hd); (case hk => wtm_at "mem"); (case hv => wtm_at "gl"); (case hd => kernel_rfl)) | ((with_reducible refine' nm_builtin B C H ?hk ?hv ?_ ?hd); (case hk => wtm_at "mem"); (case hv => wtm_at "bl"); (case hd => kernel_rfl)) | ((with_reducible refine' nm_cap C H Y ?hv ?_ ?hd); (case hv => wtm_at "mem"); (case hd => kernel_rfl)) | ((with_reducible refine' nm_cellZ C H Z ?hc ?hv ?_ ?hd); (case hc => wtm_at "mem"); (case hv => wtm_at "mem"); (case hd => kernel_rfl)))
set_option hygiene false in
local macro_rules | `(tactic| wtm_at "execs") => `(tactic| first | (with_reducible first | refine k_ret ?_ | refine k_asg2 ?_ | refine k_if ?_ | refine k_aug ?_ | refine k_nil ?_ | refine k_brk ?_) | ((with_reducible refine' k_asg ?_ ?hh); (case hh => rfl)) | ((with_reducible refine' k_for ?_ ?hh); (case hh => exact fun _ => rfl)) | ((with_reducible refine' k_put ?_ ?hh); (case hh => rfl)) | ((with_reducible refine' k_augput ?_ ?hh); (case hh => (intros; rfl))))
set_option hygiene false in
local macro_rules | `(tactic| wtm_at "eval") => `(tactic| first | (with_reducible first | refine x_int ?_ | refine x_str ?_ | refine e_bin ?_ | refine e_call ?_ | refine e_un ?_ | refine e_ife ?_ | refine e_or ?_ | refine e_none ?_ | refine e_bool ?_) | (wtm_at "name") | ((fail_if_success (with_reducible show WP _ _ (eval (Expr.Subscript _ (Expr.Slice _ _ _ _) _) _) _ _ _)); with_reducible refine e_sub ?_) | ((with_reducible refine' e_cmp ?_ ?hh); (case hh => rfl)))
set_option hygiene false in
local macro_rules | `(tactic| wtm_at "binaryOp") => `(tactic| first | (with_reducible first | refine x_add ?_ | refine x_sub ?_) | ((with_reducible refine' x_mul ?h1 ?_); (case h1 => omega)) | ((with_reducible refine' x_fdiv ?h1 ?h2 ?_); (case h1 => omega); (case h2 => omega)) | ((with_reducible refine' x_mod ?h1 ?_); (case h1 => omega)) | ((with_reducible refine' x_pow2 ?h1 ?h2 ?_); (case h1 => omega); (case h2 => omega)))
set_option hygiene false in
local macro_rules | `(tactic| wtm_at "inplaceOp") => `(tactic| first | (with_reducible first | refine x_iadd ?_ | refine x_isub ?_))
set_option hygiene false in
local macro_rules | `(tactic| wtm_at "unaryOp") => `(tactic| first | (with_reducible first | refine x_neg ?_ | refine e_not ?_))
set_option hygiene false in
local macro_rules | `(tactic| wtm_at "compareOp") => `(tactic| first | (with_reducible first | refine c_lt ?_ | refine c_gt ?_ | refine c_eq ?_ | refine c_ne ?_ | refine x_eqs ?_ | refine x_nes ?_))
set_option hygiene false in
local macro_rules | `(tactic| wtm_at "truthy") => `(tactic| first | (with_reducible first | refine tr_bool ?_ | refine tr_int ?_))
set_option hygiene false in
local macro_rules | `(tactic| wtm_at "callWith") => `(tactic| first | ((with_reducible refine' e_blt ?_ ?h2 ?h3); (case h2 => rfl); (case h3 => rfl)) | ((with_reducible refine' e_typ ?_ ?h2 ?h3); (case h2 => rfl); (case h3 => rfl)) | ((with_reducible refine' e_own B ?h1 ?_ ?h2 ?h3); (case h1 => kernel_rfl); (case h2 => rfl); (case h3 => rfl)))
set_option hygiene false in
local macro_rules | `(tactic| wtm_at "spliced") => `(tactic| first | (with_reducible refine e_nil ?_) | ((with_reducible refine' e_cons ?_ ?hh); (case hh => rfl)))
set_option hygiene false in
local macro_rules | `(tactic| wtm_at "isTrue") => `(tactic| first | (with_reducible first | refine t_not ?_ | refine t_or ?_ | refine t_and ?_) | ((with_reducible refine' t_cmp ?_ ?hh); (case hh => rfl)) | ((with_reducible refine' t_val ?_ ?hh); (case hh => rfl)))
set_option hygiene false in
local macro_rules | `(tactic| wtm_at "allTrue") => `(tactic| first | (with_reducible first | refine t_orn ?_ | refine t_andn ?_ | refine t_orc ?_ | refine t_andc ?_))
set_option hygiene false in
local macro_rules | `(tactic| wtm_at "evalPart") => `(tactic| first | (with_reducible first | refine p_some ?_ | refine p_none ?_))
set_option hygiene false in
local macro_rules | `(tactic| wtm_at "st") => `(tactic| first | ((with_reducible refine' st_drop C.tk H ?hk ?hl ?_); (case hk => wtm_at "mem"); (case hl => wtm_at "drop"); clear C; intro s u C) | ((with_reducible refine' st_cellZ C.tk H Z ?hc ?hp ?_); (case hc => wtm_at "mem"); (case hp => wtm_at "pick"); clear C; intro s u C))
set_option hygiene false in
local macro_rules | `(tactic| wtm_at "ev") => `(tactic| first | ((with_reducible show WP _ _ (execs _ _) _ _ _); wtm_at "execs") | ((with_reducible show WP _ _ (eval _ _) _ _ _); wtm_at "eval") | ((with_reducible show WP _ _ (binaryOp _ _ _) _ _ _); wtm_at "binaryOp") | ((with_reducible show WP _ _ (inplaceOp _ _ _) _ _ _); wtm_at "inplaceOp") | ((with_reducible show WP _ _ (unaryOp _ _) _ _ _); wtm_at "unaryOp") | ((with_reducible show WP _ _ (compareOp _ _ _) _ _ _); wtm_at "compareOp") | ((with_reducible show WP _ _ (truthy _) _ _ _); wtm_at "truthy") | ((with_reducible show WP _ _ (callWith _ _ _ _ _) _ _ _); wtm_at "callWith") | ((with_reducible show WP _ _ (spliced _) _ _ _); wtm_at "spliced") | ((with_reducible show WP _ _ (isTrue _ _ _) _ _ _); wtm_at "isTrue") | ((with_reducible show WP _ _ (allTrue _ _ _) _ _ _); wtm_at "allTrue") | ((with_reducible show WP _ _ (evalPart _ _) _ _ _); wtm_at "evalPart") | ((with_reducible show WP _ _ (storeName _ _ _) _ _ _); wtm_at "st") | ((with_reducible refine' nm_load C H ?hk ?hv ?_); (case hk => wtm_at "mem"); (case hv => wtm_at "mem")) | (with_reducible refine Then.next ?_) | (refine And.intro ⟨_, _, _, _, rfl, C.tk⟩ ?_))
set_option hygiene false in
local macro_rules | `(tactic| wtm_at "go") => `(tactic| repeat (wtm_at "ev"))
section
variable {prog : Program} {w : World} {g : Heap} {a b : Int} {t u : Tok}
theorem neg_ct (B : Base (KK w) g) : Ct prog w 1 g (.ref 84) [.int a t] (fun _ v => ∃ t, v = .int (-a) t) := by
  intro A s Q E fit hg ret
  refine enter (binds := [("a", .int a t)]) (ks := [("a", .local)]) fit B hg rfl (by kernel_rfl) rfl (by kernel_rfl) (by kernel_rfl) (by kernel_rfl) (by kernel_rfl) rfl rfl rfl ?_
  intro A' env L s u fit H C
  wtm_at "go"
  exact ret _ _ _ C.tk.af ⟨_, rfl⟩
theorem lt_ct (B : Base (KK w) g) : Ct prog w 1 g (.ref 63) [.int a t, .int b u] (fun _ v => v = .bool (decide (a < b))) := by
  intro A s Q E fit hg ret
  refine enter (binds := [("a", .int a t), ("b", .int b u)]) (ks := [("a", .local), ("b", .local)]) fit B hg rfl (by kernel_rfl) rfl (by kernel_rfl) (by kernel_rfl) (by kernel_rfl) (by kernel_rfl) rfl rfl rfl ?_
  intro A' env L s u fit H C
  wtm_at "go"
  exact ret _ _ _ C.tk.af rfl
theorem add_ct (B : Base (KK w) g) : Ct prog w 1 g (.ref 70) [.int a t, .int b u] (fun _ v => ∃ t, v = .int (a + b) t) := by
  intro A s Q E fit hg ret
  refine enter (binds := [("a", .int a t), ("b", .int b u)]) (ks := [("a", .local), ("b", .local)]) fit B hg rfl (by kernel_rfl) rfl (by kernel_rfl) (by kernel_rfl) (by kernel_rfl) (by kernel_rfl) rfl rfl rfl ?_
  intro A' env L s u fit H C
  wtm_at "go"
  exact ret _ _ _ C.tk.af ⟨_, rfl⟩
theorem sub_ct (B : Base (KK w) g) : Ct prog w 1 g (.ref 91) [.int a t, .int b u] (fun _ v => ∃ t, v = .int (a - b) t) := by
  intro A s Q E fit hg ret
  refine enter (binds := [("a", .int a t), ("b", .int b u)]) (ks := [("a", .local), ("b", .local)]) fit B hg rfl (by kernel_rfl) rfl (by kernel_rfl) (by kernel_rfl) (by kernel_rfl) (by kernel_rfl) rfl rfl rfl ?_
  intro A' env L s u fit H C
  wtm_at "go"
  exact ret _ _ _ C.tk.af ⟨_, rfl⟩
theorem mul_ct (B : Base (KK w) g) (hb : -1000 ≤ b ∧ b ≤ 1000) : Ct prog w 1 g (.ref 77) [.int a t, .int b u] (fun _ v => ∃ t, v = .int (a * b) t) := by
  intro A s Q E fit hg ret
  refine enter (binds := [("a", .int a t), ("b", .int b u)]) (ks := [("a", .local), ("b", .local)]) fit B hg rfl (by kernel_rfl) rfl (by kernel_rfl) (by kernel_rfl) (by kernel_rfl) (by kernel_rfl) rfl rfl rfl ?_
  intro A' env L s u fit H C
  wtm_at "go"
  exact ret _ _ _ C.tk.af ⟨_, rfl⟩
end
def place (i j : Int) : Int := 4 + (min i j * (7 - min i j)).fdiv 2 + max i j
section
variable {prog : Program} {w : World} {g : Heap} {i j : Int} {t u : Tok}
theorem place_ct (B : Base (KK w) g) (hi : 0 ≤ i ∧ i ≤ 4) (hj : 0 ≤ j ∧ j ≤ 4) : Ct prog w 1 g (.ref 140) [.int i t, .int j u] (fun _ v => ∃ t, v = .int (place i j) t) := by
  intro A s Q E fit hg ret
  refine enter (binds := [("i", .int i t), ("j", .int j u)]) (ks := [("i", .local), ("j", .local), ("min", .globalImplicit), ("max", .globalImplicit)]) fit B hg rfl (by kernel_rfl) rfl (by kernel_rfl) (by kernel_rfl) (by kernel_rfl) (by kernel_rfl) rfl rfl rfl ?_
  intro A' env L s u fit H C
  wtm_at "go"
  refine b_min2 fit.hh C.tk ?_; clear C; intro s u t C
  wtm_at "go"
  refine b_min2 fit.hh C.tk ?_; clear C; intro s u t C
  wtm_at "go"
  refine b_max2 fit.hh C.tk ?_; clear C; intro s u t C
  wtm_at "go"
  exact ret _ _ _ C.tk.af ⟨_, rfl⟩

def chr (x : Str) (i : Int) : Nat := x.cps.getD i.toNat 0
theorem chr_at (x : Str) (i : Int) (h : x.cps.size = 2) (h0 : 0 ≤ i) (h1 : i < 2) : x.cps[i.toNat]? = some (chr x i) := by
  unfold chr
  have : i.toNat < x.cps.size := by omega
  simp [Array.getElem?_eq_getElem this, Array.getD, this]
def word (c : Int) : Str :=
  ((if ((c.fdiv 8).fmod 2) = 1 then ("n" : Str) else Str.empty) ++ ((⟨#[chr "kK" (c.fmod 2)]⟩ ++ ⟨#[chr "lL" ((c.fdiv 2).fmod 2)]⟩) ++ ⟨#[chr "mx" ((c.fdiv 4).fmod 2)]⟩)) ++ (if ((c.fdiv 16).fmod 2) = 1 then ("n" : Str) else Str.empty)
theorem mod2 (a : Int) : 0 ≤ a.fmod 2 ∧ a.fmod 2 < 2 := ⟨Int.fmod_nonneg_of_pos _ (by omega), Int.fmod_lt_of_pos _ (by omega)⟩
theorem len1 (c : Nat) : (⟨#[c]⟩ : Str).length = 1 := rfl
theorem len_n (q : Prop) [Decidable q] : (if q then ("n" : Str) else Str.empty).length ≤ 1 := by split <;> decide
theorem word_ct (B : Base (KK w) g) {c : Int} : Ct prog w 1 g (.ref 133) [.int c t] (fun _ v => ∃ t, v = .str (word c) t) := by
  intro A s Q E fit hg ret
  refine enter (binds := [("cell", .int c t)]) (ks := [("cell", .local), ("letters", .local)]) fit B hg rfl (by kernel_rfl) rfl (by kernel_rfl) (by kernel_rfl) (by kernel_rfl) (by kernel_rfl) rfl rfl rfl ?_
  intro A' env L s u fit H C
  wtm_at "go"
  refine s_item (mod2 _).1 (by have := mod2 c; omega) (chr_at _ _ (by decide +kernel) (mod2 _).1 (mod2 _).2) ?_
  wtm_at "go"
  refine s_item (mod2 _).1 (by have := mod2 (c.fdiv 2); omega) (chr_at _ _ (by decide +kernel) (mod2 _).1 (mod2 _).2) ?_
  wtm_at "go"
  refine x_addstr (by rw [Str.length_append, len1, len1]; decide) ?_; intro t u
  wtm_at "go"
  refine s_item (mod2 _).1 (by have := mod2 (c.fdiv 4); omega) (chr_at _ _ (by decide +kernel) (mod2 _).1 (mod2 _).2) ?_
  wtm_at "go"
  refine x_addstr (by simp only [Str.length_append, len1]; decide) ?_; intro t u
  wtm_at "go"
  refine x_mulstr (by decide +kernel) (mod2 _).1 (by have := mod2 (c.fdiv 8); omega) ?_; intro t u
  wtm_at "go"
  refine x_addstr (by have := len_n ((c.fdiv 8).fmod 2 = 1); simp only [Str.length_append, len1]; exact fits _ (by omega)) ?_; intro t u
  wtm_at "go"
  refine x_mulstr (by decide +kernel) (mod2 _).1 (by have := mod2 (c.fdiv 16); omega) ?_; intro t u
  wtm_at "go"
  refine x_addstr (by have := len_n ((c.fdiv 8).fmod 2 = 1); have := len_n ((c.fdiv 16).fmod 2 = 1); simp only [Str.length_append, len1]; exact fits _ (by omega)) ?_; intro t u
  exact ret _ _ _ C.tk.af ⟨_, rfl⟩
end
section
variable {prog : Program} {w : World} {g : Heap} {d e : Addr} {kvs kws : List (Str × Value)}
def sumI (l : List (Str × Value)) : Int := (l.map fun q => unI q.2).sum
theorem sumI_snoc (l : List (Str × Value)) (q : Str × Value) : sumI (l ++ [q]) = sumI l + unI q.2 := by simp [sumI]
theorem count_ct (B : Base (KK w) g) (hd : (d == sysModules) = false) (hD : g.DictOf (strKind prog w) d kvs) (hI : AllI kvs) : Ct prog w 1 g (.ref 56) [.ref d] (fun _ v => ∃ t, v = .int (sumI kvs) t) := by
  intro A s Q E fit hg ret
  obtain ⟨ep, hE⟩ := hD.dictAt
  refine enter (binds := [("callers", .ref d)]) (ks := [("callers", .local), ("nc", .local), ("calls", .local)]) fit B hg rfl (by kernel_rfl) rfl (by kernel_rfl) (by kernel_rfl) (by kernel_rfl) (by kernel_rfl) rfl rfl rfl ?_
  intro A' env L s u fit H C
  wtm_at "go"
  refine m_values (knd := strKind prog w) ?_ rfl rfl
  wtm_at "ev"
  refine ⟨_, d, kvs, _, _, _, rfl, hd, C.tk, hD.at (fun _ e => C.gh _ _ e), ?_⟩
  clear C; intro s u v C
  refine it_values C.tk (hE.at fun _ e => C.gh _ _ e) ?_
  clear C; intro s u it C
  refine for_loopQ (J := fun i _ ls mu => ∃ t, ls = ([("nc", .int (sumI (kvs.take i)) t), ("callers", .ref d)] : List Loc) ∧ mu = []) (Src.values fit.hh hE) C.tk ⟨_, rfl, rfl⟩ ht_name ?_ ?_
  · rintro i v g' s u ls mu E' QQ hE hi ⟨k, hk⟩ hg' ⟨t, rfl, rfl⟩ C
    obtain ⟨n, t', e⟩ := hI _ (List.mem_of_getElem? hk)
    dsimp only at e; subst e
    refine a_name ?_
    wtm_at "go"
    have e : sumI (kvs.take i) + n = sumI (kvs.take (i + 1)) := by
      have := sumI_snoc (kvs.take i) (k, .int n t')
      rw [take_snoc hk]; exact this.symm
    rw [e] at C
    exact hE.next (stays_refl _) C .here (ls' := [("nc", .int (sumI (kvs.take (i + 1))) _), ("callers", .ref d)]) (by wtm_at "less") ⟨_, rfl, rfl⟩
  · rintro g' s u ls mu E' hg' ⟨t, rfl, rfl⟩ C
    wtm_at "go"
    rw [List.take_length]
    exact ret _ _ _ C.tk.af ⟨_, rfl⟩

theorem callers_ct (B : Base (KK w) g) (hd : (d == sysModules) = false) (hD : g.DictOf (strKind prog w) d kvs) (hI : AllI kvs) (hn : kvs.length ≤ 400)
    (he : (e == sysModules) = false) (hE : g.DictOf (strKind prog w) e kws) (hJ : AllI kws) (hm : kws.length ≤ 400) : Ct prog w 1 g (.ref 49) [.ref d, .ref e]
    (fun g' v => ∃ f kus, v = .ref f ∧ (f == sysModules) = false ∧ g'.DictOf (strKind prog w) f kus ∧ AllI kus ∧ numD kus = addC (numD kvs) (numD kws)) := by
  intro A s Q E fit hg ret
  obtain ⟨ep, hDe⟩ := hD.dictAt
  obtain ⟨ep', hEe⟩ := hE.dictAt
  have hnd : (kvs.map (·.1)).Nodup := by obtain ⟨_, _, _, _, _, _, _, _, h⟩ := hD; exact h
  have hnd' : (kws.map (·.1)).Nodup := by obtain ⟨_, _, _, _, _, _, _, _, h⟩ := hE; exact h
  refine enter (binds := [("target", .ref d), ("source", .ref e)]) (ks := [("target", .local), ("source", .local), ("new_callers", .local), ("func", .local), ("caller", .local), ("isinstance", .globalImplicit), ("tuple", .globalImplicit)]) fit B hg rfl (by kernel_rfl) rfl (by kernel_rfl) (by kernel_rfl) (by kernel_rfl) (by kernel_rfl) rfl rfl rfl ?_
  intro A' env L s u fit H C
  wtm_at "go"
  refine d_new B C.tk (strKind prog w) ?_; clear C; intro s u f hf C
  wtm_at "go"
  refine m_items (knd := strKind prog w) ?_ rfl rfl
  wtm_at "ev"
  refine ⟨_, d, kvs, _, _, _, rfl, hd, C.tk, hD.at (fun _ e => C.gh _ _ e), ?_⟩
  clear C; intro s u v C
  refine it_items C.tk (hDe.at fun _ e => C.gh _ _ e) ?_
  clear C; intro s u it C
  refine for_itemsQ (fun i _ ls mu => ls = ([("new_callers", .ref f), ("target", .ref d), ("source", .ref e)] : List Loc) ∧ mu = ([(f, isDk (strKind prog w) (kvs.take i))] : List Own)) fit.hh hDe C.tk ⟨rfl, rfl⟩ ?_ ?_
  · rintro i k v key g' s u ls mu E' QQ hE hi hkey hg' ⟨rfl, rfl⟩ C
    refine a_name ?_
    wtm_at "st"
    refine a_name ?_
    wtm_at "go"
    have hnone : valueAt (kvs.take i) k = none := valueAt_none_of_not_mem (by
      intro hm
      have h1 : (kvs.take (i + 1)).map (·.1) = (kvs.take i).map (·.1) ++ [k] := by rw [take_snoc hi]; simp
      have h2 : ((kvs.take (i + 1)).map (·.1)).Nodup := (List.Sublist.map _ (List.take_sublist _ _)).nodup hnd
      rw [h1, List.nodup_append] at h2
      exact h2.2.2 _ hm _ (List.mem_singleton.mpr rfl) rfl)
    refine d_set C.tk (.there .here) hkey (by rw [List.length_take]; omega) ?_; clear C; intro s u C
    rw [stored_new hnone, ← take_snoc hi] at C
    wtm_at "go"
    refine hE.next (stays_refl _) C (.there .here) (ls' := [("new_callers", .ref f), ("target", .ref d), ("source", .ref e)]) (by wtm_at "less") ⟨rfl, rfl⟩
  · rintro g' s u ls mu E' hg' ⟨rfl, rfl⟩ C
    rw [List.take_length] at C
    wtm_at "go"
    refine m_items (knd := strKind prog w) ?_ rfl rfl
    wtm_at "ev"
    refine ⟨_, e, kws, _, _, _, rfl, he, C.tk, hE.at (fun _ e => C.gh _ _ (hg' _ _ e)), ?_⟩
    clear C; intro s u v C
    refine it_items C.tk (hEe.at fun _ e => C.gh _ _ (hg' _ _ e)) ?_
    clear C; intro s u it C
    refine for_itemsQ (fun i _ ls mu => ls = ([("new_callers", .ref f)] : List Loc) ∧ ∃ kus, mu = ([(f, isDk (strKind prog w) kus)] : List Own) ∧ AllI kus ∧ numD kus = addC (numD kvs) (numD (kws.take i)) ∧ kus.length ≤ 400 + i)
      fit.hh (hEe.at fun _ e => hg' _ _ e) (C.less (ls' := [("new_callers", .ref f)]) (by wtm_at "less")).tk ⟨rfl, kvs, rfl, hI, rfl, by omega⟩ ?_ ?_
    · rintro i k v key g' s u ls mu E' QQ hE hi hkey hg' ⟨rfl, kus, rfl, hAll, hnum, hlen⟩ C
      have hi' : i < kws.length := (List.getElem?_eq_some_iff.mp hi).1
      obtain ⟨n, t', q⟩ := hJ _ (List.mem_of_getElem? hi)
      dsimp only at q; subst q
      refine a_name ?_
      wtm_at "st"
      refine a_name ?_
      wtm_at "go"
      have hF : s.heap.DictOf (strKind prog w) f kus := OAt.dict (C.my (.tail _ (.head _)))
      have hnd₂ : (kus.map (·.1)).Nodup := by obtain ⟨_, _, _, _, _, _, _, _, h⟩ := hF; exact h
      refine d_in hF hf hkey ?_; intro m
      wtm_at "go"
      refine ⟨fun hb => ?_, fun hb => ?_⟩
      · obtain ⟨v', hv'⟩ := Option.isSome_iff_exists.mp hb
        obtain ⟨a, u', e'⟩ := hAll _ (valueAt_mem hv')
        dsimp only at e'; subst e'
        wtm_at "go"
        refine b_isi ?_; intro m
        wtm_at "go"
        refine ⟨fun hb => (by cases hb), fun _ => ?_⟩
        wtm_at "go"
        have hF : s.heap.DictOf (strKind prog w) f kus := OAt.dict (C.my (.tail _ (.head _)))
        refine d_get hF hkey hv' ?_; intro m
        wtm_at "go"
        refine d_set C.tk (.there .here) hkey (by omega) ?_; clear C; intro s u C
        wtm_at "go"
        refine hE.next (stays_refl _) C (.there .here) (ls' := [("new_callers", .ref f)]) (by wtm_at "less") ⟨rfl, _, rfl, allI_stored hAll, ?_, ?_⟩
        · rw [upd_old hnd₂ hv', hnum, take_snoc hi, ints_append]; exact (addC_snoc _ _ (k, n)).symm
        · exact Nat.le_trans stored_len (by omega)
      · have hv' : valueAt kus k = none := by simpa using hb
        wtm_at "go"
        refine d_set C.tk (.there .here) hkey (by omega) ?_; clear C; intro s u C
        wtm_at "go"
        refine hE.next (stays_refl _) C (.there .here) (ls' := [("new_callers", .ref f)]) (by wtm_at "less") ⟨rfl, _, rfl, allI_stored hAll, ?_, ?_⟩
        · rw [upd_new hv', hnum, take_snoc hi, ints_append]; exact (addC_snoc _ _ (k, n)).symm
        · exact Nat.le_trans stored_len (by omega)
    · rintro g' s u ls mu E' hg' ⟨rfl, kus, rfl, hAll, hnum, hlen⟩ C
      rw [List.take_length] at hnum
      wtm_at "go"
      obtain ⟨g'', C', hgg, hO⟩ := C.freeze
      exact ret _ _ _ C'.tk.af ⟨f, kus, rfl, hf, OAt.dict hO, hAll, hnum⟩
end
abbrev okc (c : Nat) : Prop := 65 ≤ c ∧ c ≤ 90 ∨ 97 ≤ c ∧ c ≤ 122
theorem lower1 {x : Nat} (h : okc x) : Txt.lower ⟨#[x]⟩ = ⟨#[lo2 x]⟩ := by
  rw [lower_ascii (x := ⟨#[x]⟩) (by intro c hc; simp at hc; subst hc; unfold okc at h; omega)]
  have : lo1 x = lo2 x := by
    unfold lo1 lo2
    unfold okc at h
    cases e : Nat.ble 97 x with
    | true => have := Nat.le_of_ble_eq_true e; rw [if_neg (by omega)]; rfl
    | false =>
      have : ¬ 97 ≤ x := fun q => by rw [Nat.ble_eq_true_of_le q] at e; cases e
      rw [if_pos (by omega)]; rfl
  simp [this]
theorem one_eq {x y : Nat} : (decide ((⟨#[x]⟩ : Str) = ⟨#[y]⟩)) = Nat.beq x y := by
  cases e : Nat.beq x y with
  | true => have := Nat.eq_of_beq_eq_true e; subst this; simp
  | false => have := Nat.ne_of_beq_eq_false e; simp [this]
theorem cpl_le : ∀ (a b : List Nat), cpl a b ≤ a.length ∧ cpl a b ≤ b.length
  | [], _ => by simp [cpl]
  | _ :: _, [] => by simp [cpl]
  | x :: a, y :: b => by
    have := cpl_le a b
    unfold cpl
    cases Nat.beq x y <;> simp <;> omega
theorem cpl_more : ∀ (a b : List Nat) (k x y : Nat), k ≤ cpl a b → k < a.length → k < b.length → a[k]? = some x → b[k]? = some y → (x = y → k + 1 ≤ cpl a b) ∧ (x ≠ y → k = cpl a b)
  | [], _, _, _, _ => fun _ h => by simp at h
  | _ :: _, [], _, _, _ => fun _ _ h => by simp at h
  | x :: a, y :: b, k, x', y' => fun hk ha hb hx hy => by
    unfold cpl at hk ⊢
    cases k with
    | zero =>
      simp at hx hy; subst hx; subst hy
      cases e : Nat.beq x y with
      | true => have := Nat.eq_of_beq_eq_true e; simp [this]
      | false => have := Nat.ne_of_beq_eq_false e; simp [this]
    | succ k =>
      cases e : Nat.beq x y with
      | false => rw [e] at hk; simp at hk
      | true =>
        rw [e] at hk
        simp only [cond_true] at hk ⊢
        have := cpl_more a b k x' y' (by omega) (by simpa using ha) (by simpa using hb) (by simpa using hx) (by simpa using hy)
        exact ⟨fun q => by have := this.1 q; omega, fun q => by have := this.2 q; omega⟩
theorem cpl_end {a b : List Nat} {k : Nat} (h : k ≤ cpl a b) (hk : a.length ≤ k ∨ b.length ≤ k) : k = cpl a b := by
  have := cpl_le a b; omega
theorem cpl_self : ∀ (a : List Nat), cpl a a = a.length
  | [] => rfl
  | x :: a => by unfold cpl; simp [cpl_self a]
theorem lev_self (a : List Nat) (c : Nat) : lev a a c = 0 := by
  unfold lev
  rw [cpl_self, List.drop_length]; rfl
section
variable {prog : Program} {w : World} {g : Heap} {t u : Tok}
theorem subst_ct (B : Base (KK w) g) {x y : Nat} (hx : okc x) (hy : okc y) : Ct prog w 1 g (.ref 112) [.str ⟨#[x]⟩ t, .str ⟨#[y]⟩ u] (fun _ v => ∃ t, v = .int (cost x y : Nat) t) := by
  intro A s Q E fit hg ret
  refine enter (binds := [("ch_a", .str ⟨#[x]⟩ t), ("ch_b", .str ⟨#[y]⟩ u)]) (ks := [("ch_a", .local), ("ch_b", .local), ("_CASE_COST", .globalImplicit), ("_MOVE_COST", .globalImplicit)]) fit B hg rfl (by kernel_rfl) rfl (by kernel_rfl) (by kernel_rfl) (by kernel_rfl) (by kernel_rfl) rfl rfl rfl ?_
  intro A' env L s u fit H C
  have l1 : ∀ z : Nat, (⟨#[z]⟩ : Str).length ≤ 1000 := fun z => by show 1 ≤ 1000; decide
  unfold cost at ret
  wtm_at "go"
  rw [one_eq]
  refine ⟨fun hb => ?_, fun hb => ?_⟩
  · rw [hb] at ret
    wtm_at "go"
    exact ret _ _ _ C.tk.af ⟨_, rfl⟩
  · rw [hb] at ret
    wtm_at "go"
    refine m_lower ?_ rfl rfl
    wtm_at "go"
    refine ⟨_, _, _, _, rfl, l1 _, rfl, ?_⟩
    intro t m
    refine m_lower ?_ rfl rfl
    wtm_at "go"
    refine ⟨_, _, _, _, rfl, l1 _, rfl, ?_⟩
    intro t m
    rw [lower1 hx, lower1 hy]
    wtm_at "go"
    rw [one_eq]
    refine ⟨fun hb' => ?_, fun hb' => ?_⟩ <;> rw [hb'] at ret <;> wtm_at "go" <;> exact ret _ _ _ C.tk.af ⟨_, rfl⟩

section
variable {A : Around} {E : Value → Shared → Prop} {p : Par} {s : Shared} {ls : List Loc} {mu : List Own} {env : Env} {ks : List (Str × NameKind)} {p1 p2 p3 p4 p5 p6 : Pos} {x y : Str} {l : List Nat} {m k n : Nat} {Q : Value → Shared → Prop}
theorem s_pre (C : Cx p g s ls mu) (H : En env p.L ks) (hk : (x, NameKind.local) ∈ ks) (hv : (x, .str (sv l) t) ∈ ls) (hk' : (y, NameKind.local) ∈ ks) (hv' : (y, .int (m : Int) u) ∈ ls) (hm : m ≤ l.length) (hl : l.length ≤ 1000)
    (h : ∀ s' u' t, Cx p g s' ls mu → Q (.str (sv (l.drop m)) t) (tk s' u')) (hd : (x == ("__debug__" : Str)) = false := by kernel_rfl) (hd' : (y == ("__debug__" : Str)) = false := by kernel_rfl) :
    WP (model prog w) A (eval (.Subscript (.Name x p1) (.Slice (some (.Name y p2)) none none p5) p6) env) Q E (tk s n) := by
  refine s_slice (nm_local C H hk hv (p_some (nm_local C H hk' hv' (p_none ?_) hd')) hd) fun _ _ => rfl
  refine ⟨_, _, some (_, _), none, _, _, _, _, rfl, rfl, rfl, by rw [sv_len]; exact hl, C.tk, fun s' u' t' C' => ?_⟩
  rw [show ((some ((m : Int), u)).map (·.1) : Option Int) = some (m : Int) from rfl, show ((none : Option (Int × Tok)).map (·.1) : Option Int) = none from rfl, sv_from l hm]
  exact h _ _ _ C'
theorem s_post (C : Cx p g s ls mu) (H : En env p.L ks) (hk : (x, NameKind.local) ∈ ks) (hv : (x, .str (sv l) t) ∈ ls) (hk' : (y, NameKind.local) ∈ ks) (hv' : (y, .int (-(m : Int)) u) ∈ ls) (hm : m ≤ l.length) (hl : l.length ≤ 1000)
    (h : ∀ s' u' t, Cx p g s' ls mu → Q (.str (sv (l.take (l.length - m))) t) (tk s' u')) (hd : (x == ("__debug__" : Str)) = false := by kernel_rfl) (hd' : (y == ("__debug__" : Str)) = false := by kernel_rfl) :
    WP (model prog w) A (eval (.Subscript (.Name x p1) (.Slice none (some (.BoolOp .Or [.Name y p2, .Constant .none k p3] p4)) none p5) p6) env) Q E (tk s n) := by
  refine s_slice (nm_local C H hk hv (p_none (p_some (e_or (nm_local C H hk' hv' (tr_int ⟨fun q => ?_, fun q => e_none ?_⟩) hd')))) hd) fun _ _ => rfl
  · have h0 : 0 < m := by simp at q; omega
    refine ⟨_, _, none, some (_, _), _, _, _, _, rfl, rfl, rfl, by rw [sv_len]; exact hl, C.tk, fun s' u' t' C' => ?_⟩
    rw [show ((some (-(m : Int), u)).map (·.1) : Option Int) = some (-(m : Int)) from rfl, show ((none : Option (Int × Tok)).map (·.1) : Option Int) = none from rfl, sv_to_neg l h0 hm]
    exact h _ _ _ C'
  · have h0 : m = 0 := by simp at q; omega
    subst h0
    refine ⟨_, _, none, none, _, _, _, _, rfl, rfl, rfl, by rw [sv_len]; exact hl, C.tk, fun s' u' t' C' => ?_⟩
    rw [show ((none : Option (Int × Tok)).map (·.1) : Option Int) = none from rfl, sv_all]
    have := h _ u' t' C'
    rwa [Nat.sub_zero, List.take_length] at this
end
/-- a row's values -/
def NatsL (vs : List Value) (ns : List Nat) : Prop := vs.length = ns.length ∧ ∀ (j n : Nat), ns[j]? = some n → ∃ t, vs[j]? = some (.int (n : Int) t)
theorem small2 : ∀ n < 21, Builtin.Range.small 2 (2 * (((n : Nat) : Int) + 1)) 2 = true ∧ Builtin.Range.rangeSize 2 (2 * (((n : Nat) : Int) + 1)) 2 = ((n : Nat) : Int) := by decide +kernel
set_option maxHeartbeats 0 in
theorem lev_ct (B : Base (KK w) g) {la lb : List Nat} {c : Nat} {ta tb tc : Tok} (ha : ∀ x ∈ la, okc x) (hb : ∀ x ∈ lb, okc x) (hla : la.length ≤ 20) (hlb : lb.length ≤ 20) (hc : c ≤ 100) :
    Ct prog w 2 g (.ref 119) [.str (sv la) ta, .str (sv lb) tb, .int (c : Nat) tc] (fun _ v => ∃ t, v = .int (lev la lb c : Nat) t) := by
  intro A s₀ Q E fit hg ret
  refine enterQ (binds := [("a", .str (sv la) ta), ("b", .str (sv lb) tb), ("max_cost", .int (c : Nat) tc)]) (ks := [("a", .local), ("b", .local), ("max_cost", .local), ("pre", .local), ("post", .local), ("row", .local), ("result", .local), ("bindex", .local), ("bchar", .local), ("distance", .local), ("minimum", .local), ("index", .local), ("substitute", .local), ("insert_delete", .local),
    ("_MOVE_COST", .globalImplicit), ("_MAX_STRING_SIZE", .globalImplicit), ("len", .globalImplicit), ("list", .globalImplicit), ("range", .globalImplicit), ("min", .globalImplicit), ("_substitution_cost", .globalImplicit)]) fit B hg rfl (by kernel_rfl) rfl (by kernel_rfl) (by kernel_rfl) (by kernel_rfl) (by kernel_rfl) rfl rfl rfl ?_
  intro A' env L s u QQ EE hQ _ fit H C
  replace ret : ∀ v g' s' u', After g s₀ g' (tk s' u') → (∃ t, v = Value.int (lev la lb c : Nat) t) → QQ (.ret v) (tk s' u') := fun v g' s' u' a b => hQ _ _ _ (ret v g' _ a b)
  clear hQ
  wtm_at "go"
  refine ⟨fun hq => ?_, fun hq => ?_⟩
  · wtm_at "go"
    have := sv_inj.mp (of_decide_eq_true hq)
    subst this
    rw [lev_self] at ret
    exact ret _ _ _ _ C.tk.af ⟨_, rfl⟩
  clear hq
  wtm_at "go"
  have hka := cpl_le la lb
  refine k_whileQ (fun n s => ∃ k : Nat, ∃ t' : Tok, k ≤ cpl la lb ∧ n = la.length - k ∧ Cx ⟨s₀, g, L⟩ g s [("pre", .int k t'), ("a", .str (sv la) ta), ("b", .str (sv lb) tb), ("max_cost", .int (c : Nat) tc)] [])
    (fun n s => ∃ k : Nat, ∃ t' : Tok, k + 1 ≤ cpl la lb ∧ n = la.length - k ∧ Cx ⟨s₀, g, L⟩ g s [("pre", .int k t'), ("a", .str (sv la) ta), ("b", .str (sv lb) tb), ("max_cost", .int (c : Nat) tc)] [])
    (fun s => ∃ k : Nat, ∃ t' : Tok, k = cpl la lb ∧ Cx ⟨s₀, g, L⟩ g s [("pre", .int k t'), ("a", .str (sv la) ta), ("b", .str (sv lb) tb), ("max_cost", .int (c : Nat) tc)] []) _ ⟨0, _, Nat.zero_le _, rfl, C.tk⟩ ?_ ?_ ?_
  · clear C
    rintro n s u E' ⟨k, t', hk, rfl, C⟩
    refine t_and (t_andc (t_val (s_pre C H (by wtm_at "mem") (by wtm_at "mem") (by wtm_at "mem") (by wtm_at "mem") (by omega) (by omega) ?_) rfl)); clear C; intro s u t C
    refine tr_str (by rw [sv_len, List.length_drop]; omega) ?_
    rw [sv_len, List.length_drop]
    refine ⟨fun h1 => ?_, fun h1 => ⟨fun q => (by cases q), fun _ => ⟨_, _, cpl_end hk (.inl (by simp at h1; omega)), C.tk⟩⟩⟩
    have h1 : k < la.length := by simp at h1; omega
    refine t_andc (t_val (s_pre C H (by wtm_at "mem") (by wtm_at "mem") (by wtm_at "mem") (by wtm_at "mem") (by omega) (by omega) ?_) rfl); clear C; intro s u t C
    refine tr_str (by rw [sv_len, List.length_drop]; omega) ?_
    rw [sv_len, List.length_drop]
    refine ⟨fun h2 => ?_, fun h2 => ⟨fun q => (by cases q), fun _ => ⟨_, _, cpl_end hk (.inr (by simp at h2; omega)), C.tk⟩⟩⟩
    have h2 : k < lb.length := by simp at h2; omega
    wtm_at "go"
    refine s_item (c := la[k]) (by omega) (by omega) (by simp [h1]) ?_
    wtm_at "go"
    refine s_item (c := lb[k]) (by omega) (by omega) (by simp [h2]) ?_
    wtm_at "go"
    rw [one_eq]
    have hm := cpl_more la lb k la[k] lb[k] hk h1 h2 (by simp [h1]) (by simp [h2])
    refine ⟨fun q => ?_, fun q => ⟨fun q => (by cases q), fun _ => ⟨_, _, hm.2 (Nat.ne_of_beq_eq_false q), C.tk⟩⟩⟩
    have hm := hm.1 (Nat.eq_of_beq_eq_true q)
    wtm_at "go"
    exact ⟨fun _ => ⟨_, _, hm, rfl, C.tk⟩, fun q => (by cases q)⟩
  · clear C
    rintro n s u E' Q1 hN _ ⟨k, t', hk, rfl, C⟩
    wtm_at "go"
    exact hN _ _ (by omega) ⟨k + 1, _, hk, rfl, C.tk⟩
  clear C
  rintro s u ⟨k, t', hk, C⟩
  subst hk
  wtm_at "ev"
  refine s_pre C H (by wtm_at "mem") (by wtm_at "mem") (by wtm_at "mem") (by wtm_at "mem") (by omega) (by omega) ?_; clear C; intro s u t1 C
  wtm_at "go"
  refine s_pre C H (by wtm_at "mem") (by wtm_at "mem") (by wtm_at "mem") (by wtm_at "mem") (by omega) (by omega) ?_; clear C; intro s u t2 C
  wtm_at "go"
  have C := C.less (ls' := [("post", .int 0 _), ("b", .str (sv (lb.drop (cpl la lb))) t2), ("a", .str (sv (la.drop (cpl la lb))) t1), ("max_cost", .int (c : Nat) tc)]) (by wtm_at "less")
  unfold lev at ret
  have la1 : (la.drop (cpl la lb)).length ≤ 20 := by rw [List.length_drop]; omega
  have lb1 : (lb.drop (cpl la lb)).length ≤ 20 := by rw [List.length_drop]; omega
  have ha1 : ∀ x ∈ la.drop (cpl la lb), okc x := fun x hx => ha x (List.mem_of_mem_drop hx)
  have hb1 : ∀ x ∈ lb.drop (cpl la lb), okc x := fun x hx => hb x (List.mem_of_mem_drop hx)
  generalize la.drop (cpl la lb) = a1 at C ret la1 ha1
  generalize lb.drop (cpl la lb) = b1 at C ret lb1 hb1
  clear hka hla hlb ha hb
  have hka := cpl_le a1.reverse b1.reverse
  rw [List.length_reverse, List.length_reverse] at hka
  refine k_whileQ (fun n s => ∃ m : Nat, ∃ t' : Tok, m ≤ cpl a1.reverse b1.reverse ∧ n = a1.length - m ∧ Cx ⟨s₀, g, L⟩ g s [("post", .int (-(m : Int)) t'), ("b", .str (sv b1) t2), ("a", .str (sv a1) t1), ("max_cost", .int (c : Nat) tc)] [])
    (fun n s => ∃ m : Nat, ∃ t' : Tok, m + 1 ≤ cpl a1.reverse b1.reverse ∧ n = a1.length - m ∧ Cx ⟨s₀, g, L⟩ g s [("post", .int (-(m : Int)) t'), ("b", .str (sv b1) t2), ("a", .str (sv a1) t1), ("max_cost", .int (c : Nat) tc)] [])
    (fun s => ∃ m : Nat, ∃ t' : Tok, m = cpl a1.reverse b1.reverse ∧ Cx ⟨s₀, g, L⟩ g s [("post", .int (-(m : Int)) t'), ("b", .str (sv b1) t2), ("a", .str (sv a1) t1), ("max_cost", .int (c : Nat) tc)] []) _ ⟨0, _, Nat.zero_le _, rfl, C.tk⟩ ?_ ?_ ?_
  · clear C
    rintro n s u E' ⟨m, t', hk, rfl, C⟩
    refine t_and (t_andc (t_val (s_post C H (by wtm_at "mem") (by wtm_at "mem") (by wtm_at "mem") (by wtm_at "mem") (by omega) (by omega) ?_) rfl)); clear C; intro s u t C
    refine tr_str (by rw [sv_len, List.length_take]; omega) ?_
    rw [sv_len, List.length_take]
    refine ⟨fun h1 => ?_, fun h1 => ⟨fun q => (by cases q), fun _ => ⟨_, _, cpl_end hk (.inl (by rw [List.length_reverse]; simp at h1; omega)), C.tk⟩⟩⟩
    have h1 : m < a1.length := by simp at h1; omega
    refine t_andc (t_val (s_post C H (by wtm_at "mem") (by wtm_at "mem") (by wtm_at "mem") (by wtm_at "mem") (by omega) (by omega) ?_) rfl); clear C; intro s u t C
    refine tr_str (by rw [sv_len, List.length_take]; omega) ?_
    rw [sv_len, List.length_take]
    refine ⟨fun h2 => ?_, fun h2 => ⟨fun q => (by cases q), fun _ => ⟨_, _, cpl_end hk (.inr (by rw [List.length_reverse]; simp at h2; omega)), C.tk⟩⟩⟩
    have h2 : m < b1.length := by simp at h2; omega
    have h1' : m < a1.reverse.length := by rw [List.length_reverse]; omega
    have h2' : m < b1.reverse.length := by rw [List.length_reverse]; omega
    wtm_at "go"
    refine s_itemneg (c := a1.reverse[m]) (by omega) (by rw [sv_len]; omega) (by omega) (by rw [sv_len, show (-(m : Int) - 1 + a1.length).toNat = a1.length - 1 - m by omega]; simp) ?_
    wtm_at "go"
    refine s_itemneg (c := b1.reverse[m]) (by omega) (by rw [sv_len]; omega) (by omega) (by rw [sv_len, show (-(m : Int) - 1 + b1.length).toNat = b1.length - 1 - m by omega]; simp) ?_
    wtm_at "go"
    rw [one_eq]
    have hm := cpl_more a1.reverse b1.reverse m a1.reverse[m] b1.reverse[m] hk h1' h2' (List.getElem?_eq_getElem h1') (List.getElem?_eq_getElem h2')
    refine ⟨fun q => ?_, fun q => ⟨fun q => (by cases q), fun _ => ⟨_, _, hm.2 (Nat.ne_of_beq_eq_false q), C.tk⟩⟩⟩
    have hm := hm.1 (Nat.eq_of_beq_eq_true q)
    wtm_at "go"
    exact ⟨fun _ => ⟨_, _, hm, rfl, C.tk⟩, fun q => (by cases q)⟩
  · clear C
    rintro n s u E' Q1 hN _ ⟨k, t', hk, rfl, C⟩
    wtm_at "go"
    rw [show -(k : Int) - 1 = -((k + 1 : Nat) : Int) by omega] at C
    exact hN (a1.length - (k + 1)) _ (by omega) ⟨k + 1, _, hk, rfl, C.tk⟩
  clear C
  rintro s u ⟨k, t', hk, C⟩
  subst hk
  wtm_at "ev"
  refine s_post C H (by wtm_at "mem") (by wtm_at "mem") (by wtm_at "mem") (by wtm_at "mem") (by omega) (by omega) ?_; clear C; intro s u t3 C
  wtm_at "go"
  refine s_post C H (by wtm_at "mem") (by wtm_at "mem") (by wtm_at "mem") (by wtm_at "mem") (by omega) (by omega) ?_; clear C; intro s u t4 C
  unfold cut2 at ret
  generalize cpl a1.reverse b1.reverse = m at *
  have la2 : (a1.take (a1.length - m)).length ≤ 20 := by rw [List.length_take]; omega
  have lb2 : (b1.take (b1.length - m)).length ≤ 20 := by rw [List.length_take]; omega
  have ha2 : ∀ x ∈ a1.take (a1.length - m), okc x := fun x hx => ha1 x (List.mem_of_mem_take hx)
  have hb2 : ∀ x ∈ b1.take (b1.length - m), okc x := fun x hx => hb1 x (List.mem_of_mem_take hx)
  generalize a1.take (a1.length - m) = a2 at *
  generalize b1.take (b1.length - m) = b2 at *
  clear hka la1 lb1 ha1 hb1
  wtm_at "go"
  have both : ∀ (Q' : Bool → Shared → Prop), (∀ s, Cx ⟨s₀, g, L⟩ g s [("b", .str (sv b2) t4), ("a", .str (sv a2) t3), ("post", .int (-(m : Int)) t'), ("max_cost", .int (c : Nat) tc)] [] → Q' (a2.isEmpty || b2.isEmpty) s) → Q' true s → Q' true s := fun _ _ x => x
  clear both
  refine tr_str (by rw [sv_len]; omega) ?_
  rw [sv_len]
  have emp : ∀ {l : List Nat}, (!decide (l.length ≠ 0)) = true → l.isEmpty = true := fun {l} q => by cases l <;> simp at q ⊢
  have nem : ∀ {l : List Nat}, (!decide (l.length ≠ 0)) = false → l.isEmpty = false := fun {l} q => by cases l <;> simp at q ⊢
  have some2 : (a2.isEmpty || b2.isEmpty) = true → ∀ s u E, Cx ⟨s₀, g, L⟩ g s [("b", .str (sv b2) t4), ("a", .str (sv a2) t3), ("post", .int (-(m : Int)) t'), ("max_cost", .int (c : Nat) tc)] [] → QQ (.ret (.int (2 * ((a2.length : Int) + b2.length)) E)) (tk s u) := fun q s u E C => by
    refine ret _ _ _ _ C.tk.af ⟨E, ?_⟩
    unfold core
    rw [q, cond_true]; rfl
  refine ⟨fun q => ⟨fun _ => ?_, fun q => (by cases q)⟩, fun q => ?_⟩
  · wtm_at "go"
    refine s_len (by rw [sv_len]; omega) ?_
    wtm_at "go"
    refine s_len (by rw [sv_len]; omega) ?_
    wtm_at "go"
    rw [sv_len, sv_len]
    exact some2 (by rw [emp q]; rfl) _ _ _ C
  have na := nem q
  wtm_at "go"
  refine tr_str (by rw [sv_len]; omega) ?_
  rw [sv_len]
  refine ⟨fun q => ⟨fun _ => ?_, fun q => (by cases q)⟩, fun q => ?_⟩
  · wtm_at "go"
    refine s_len (by rw [sv_len]; omega) ?_
    wtm_at "go"
    refine s_len (by rw [sv_len]; omega) ?_
    wtm_at "go"
    rw [sv_len, sv_len]
    exact some2 (by rw [emp q, Bool.or_true]) _ _ _ C
  have nb := nem q
  clear some2 emp nem q
  unfold core at ret
  rw [na, nb, Bool.or_self, cond_false] at ret
  wtm_at "go"
  refine ⟨fun q => (by cases q), fun _ => ?_⟩
  wtm_at "go"
  refine s_len (by rw [sv_len]; omega) ?_
  wtm_at "go"
  rw [sv_len]
  refine ⟨fun q => absurd (of_decide_eq_true q) (by omega), fun _ => ?_⟩
  wtm_at "go"
  refine s_len (by rw [sv_len]; omega) ?_
  wtm_at "go"
  rw [sv_len]
  refine ⟨fun q => absurd (of_decide_eq_true q) (by omega), fun _ => ?_⟩
  wtm_at "go"
  refine ⟨fun q => (by cases q), fun _ => ?_⟩
  wtm_at "ev"
  refine Then.next ?_
  refine k_ifjoin (fun s => ∃ (a3 b3 : List Nat) (t1 t2 : Tok), a3.length ≤ b3.length ∧ b3.length ≤ 20 ∧ (∀ x ∈ a3, okc x) ∧ (∀ x ∈ b3, okc x) ∧ (cond (Nat.ble a2.length b2.length) (core2 a2 b2 c) (core2 b2 a2 c) = core2 a3 b3 c) ∧
    Cx ⟨s₀, g, L⟩ g s [("b", .str (sv b3) t2), ("a", .str (sv a3) t1), ("max_cost", .int (c : Nat) tc)] []) ?_ ?_
  · wtm_at "go"
    refine s_len (by rw [sv_len]; omega) ?_
    wtm_at "go"
    refine s_len (by rw [sv_len]; omega) ?_
    wtm_at "go"
    rw [sv_len, sv_len]
    refine ⟨fun q => ?_, fun q => ?_⟩
    · have hlt : b2.length < a2.length := by have := of_decide_eq_true q; omega
      refine k_swap fit.hh C.tk H (by wtm_at "mem") (by wtm_at "mem") rfl (by decide +kernel) rfl rfl (by wtm_at "mem") (by wtm_at "mem") (by wtm_at "mem") (by wtm_at "mem") ?_
      clear C; intro s u C
      wtm_at "go"
      refine ⟨rfl, b2, a2, _, _, by omega, by omega, hb2, ha2, ?_, (C.less (by wtm_at "less")).tk⟩
      have : Nat.ble a2.length b2.length = false := by
        cases e : Nat.ble a2.length b2.length with
        | false => rfl
        | true => have := Nat.le_of_ble_eq_true e; omega
      rw [this]; rfl
    · have hle : a2.length ≤ b2.length := by have := of_decide_eq_false q; omega
      wtm_at "go"
      refine ⟨rfl, a2, b2, _, _, hle, by omega, ha2, hb2, ?_, (C.less (by wtm_at "less")).tk⟩
      rw [Nat.ble_eq_true_of_le hle]; rfl
  clear C
  rintro s u ⟨a3, b3, t1, t2, hab, hb20, ha3, hb3, he, C⟩
  rw [he] at ret
  clear he ha2 hb2 na nb la2 lb2
  wtm_at "go"
  refine s_len (by rw [sv_len]; omega) ?_
  wtm_at "go"
  refine s_len (by rw [sv_len]; omega) ?_
  wtm_at "go"
  rw [sv_len, sv_len]
  unfold core2 at ret
  refine ⟨fun q => ?_, fun q => ?_⟩
  · have hq : Nat.ble ((b3.length - a3.length) * 2) c = false := by
      have := of_decide_eq_true q
      cases e : Nat.ble ((b3.length - a3.length) * 2) c with
      | false => rfl
      | true => have := Nat.le_of_ble_eq_true e; omega
    rw [hq, cond_false] at ret
    wtm_at "go"
    exact ret _ _ _ _ C.tk.af ⟨_, rfl⟩
  have hq : Nat.ble ((b3.length - a3.length) * 2) c = true := by
    have := of_decide_eq_false q
    exact Nat.ble_eq_true_of_le (by omega)
  rw [hq, cond_true] at ret
  clear q hq
  wtm_at "go"
  refine s_len (by rw [sv_len]; omega) ?_
  wtm_at "go"
  refine c_range3 C.tk (by decide) (by decide) ?_; clear C; intro s u r C
  wtm_at "go"
  rw [sv_len] at C
  refine l_range (n := a3.length) fit.hh C.tk (small2 _ (by omega)).1 (small2 _ (by omega)).2 (by omega) ?_
  clear C; intro s u l vs hvl hvs C
  wtm_at "go"
  refine s_len (by rw [sv_len]; omega) ?_
  wtm_at "go"
  rw [sv_len]
  refine c_range C.tk ?_; clear C; intro s u r' C
  refine it_range C.tk (by omega) ?_; clear C; intro it s u C
  have hn : b3.length = b3.length := rfl
  have row0 : NatsL vs (a3.zipIdx.map fun x => 2 + x.2 * 2) := by
    refine ⟨by simp [hvl], fun j n hn => ?_⟩
    have hj : j < a3.length := by have := (List.getElem?_eq_some_iff.mp hn).1; simpa using this
    obtain ⟨t, e⟩ := hvs j _ (List.getElem?_eq_getElem (by omega))
    refine ⟨t, (List.getElem?_eq_getElem (by omega)).trans ?_⟩
    rw [e]
    simp at hn
    obtain ⟨x, hx, rfl⟩ := hn
    simp
  have hrl : (a3.zipIdx.map fun x => 2 + x.2 * 2).length = a3.length := by simp
  generalize (a3.zipIdx.map fun x => 2 + x.2 * 2) = R0 at ret row0 hrl
  refine for_loopQ (J := fun i _ ls mu => ∃ (res : Nat) (R : List Nat) (vs : List Value) (t : Tok), R.length = a3.length ∧ NatsL vs R ∧ ofast a3 c (b3.drop i) i R res = ofast a3 c b3 0 R0 0 ∧
    ls = ([("result", .int (res : Int) t), ("row", .ref l), ("b", .str (sv b3) t2), ("a", .str (sv a3) t1), ("max_cost", .int (c : Nat) tc)] : List Loc) ∧ mu = ([(l, isL vs)] : List Own)) (Src.range fit.hh 0 b3.length) C.tk ⟨0, R0, vs, _, hrl, row0, rfl, rfl, rfl⟩ ht_name ?_ ?_
  · clear C
    rintro i v g' s u ls mu E' Q1 hE hi ⟨tv, rfl⟩ hg' ⟨res, R, vs, t, hR, hvs, he, rfl, rfl⟩ C
    rw [Int.zero_add]
    refine a_name ?_
    wtm_at "go"
    have hbi : b3[i]? = some b3[i] := List.getElem?_eq_getElem hi
    refine s_item (c := b3[i]) (by omega) (by omega) (by simp [hi]) ?_
    wtm_at "go"
    refine s_len (by rw [sv_len]; omega) ?_
    wtm_at "go"
    rw [sv_len]
    refine c_range C.tk ?_; clear C; intro s u r'' C
    refine it_range C.tk (by omega) ?_; clear C; intro it' s u C
    have ei : ((i : Int) * 2) = ((i * 2 : Nat) : Int) := by omega
    rw [ei, show (9223372036854775807 : Int) = ((9223372036854775807 : Nat) : Int) from rfl] at C
    have hchr : okc b3[i] := hb3 _ (List.getElem_mem hi)
    have hed : b3.drop i = b3[i] :: b3.drop (i + 1) := List.drop_eq_getElem_cons hi
    rw [hed, ofast] at he
    generalize b3[i] = ch at C he hchr
    refine for_loopQ (J := fun j g'' ls mu => ∃ (dist res mn : Nat) (R' : List Nat) (vs : List Value) (u1 u2 u3 u4 : Tok), R'.length = a3.length ∧ NatsL vs R' ∧
      (∀ k, fast ch (a3.drop j) (R'.drop j) dist res mn (fun l => R'.take j ++ l) k = fast ch a3 R (i * 2) (i * 2) 9223372036854775807 (fun l => l) k) ∧
      ls = ([("result", .int (res : Int) u1), ("distance", .int (dist : Int) u2), ("minimum", .int (mn : Int) u3), ("bchar", .str ⟨#[ch]⟩ u4), ("row", .ref l), ("b", .str (sv b3) t2), ("a", .str (sv a3) t1), ("max_cost", .int (c : Nat) tc)] : List Loc) ∧ mu = ([(l, isL vs), (it, isRI 0 (b3.length : Nat) (i + 1))] : List Own))
      (Src.range fit.hh 0 a3.length) ((C.tk.perm (List.Perm.cons _ (List.Perm.swap _ _ _))).less (ls' := [("result", .int ((i * 2 : Nat) : Int) _), ("distance", .int ((i * 2 : Nat) : Int) _), ("minimum", .int ((9223372036854775807 : Nat) : Int) _), ("bchar", .str ⟨#[ch]⟩ _), ("row", .ref l), ("b", .str (sv b3) t2), ("a", .str (sv a3) t1), ("max_cost", .int (c : Nat) tc)]) (by wtm_at "less"))
      ⟨_, _, _, R, vs, _, _, _, _, hR, hvs, fun k => rfl, rfl, rfl⟩ ht_name ?_ ?_
    · clear C
      rintro j v g'' s u ls mu E'' Q2 hF hj ⟨tv, rfl⟩ hg'' ⟨dist, res, mn, R', vs, u1, u2, u3, u4, hR', hvs, hf, rfl, rfl⟩ C
      rw [Int.zero_add]
      refine a_name ?_
      wtm_at "go"
      have haj : a3[j]? = some a3[j] := List.getElem?_eq_getElem hj
      have hchj : okc a3[j] := ha3 _ (List.getElem_mem hj)
      refine s_item (c := a3[j]) (by omega) (by omega) (by simp [hj]) ?_
      wtm_at "go"
      refine (subst_ct (B.mono C.af.gg) hchr hchj).use fit (Nat.le_refl _) C.tk ?_; clear C
      rintro _ g3 s u C hg3 ⟨t, rfl⟩
      wtm_at "go"
      obtain ⟨d, hd⟩ : ∃ d, R'[j]? = some d := ⟨_, List.getElem?_eq_getElem (by omega)⟩
      obtain ⟨td, hvj⟩ := hvs.2 j d hd
      have hL : s.heap.IsList l vs.toArray := (show OAt s.heap l (isL vs) from C.my (by wtm_at "mem"))
      refine l_item hL (by omega) (by omega) hvj ?_
      wtm_at "go"
      refine b_min2 fit.hh C.tk ?_; clear C; intro s u t C
      wtm_at "go"
      refine b_min2 fit.hh C.tk ?_; clear C; intro s u t C
      have er : min (min (res : Int) (d : Int) + 2) ((dist : Int) + (cost ch a3[j] : Nat)) = ((mi (mi res d + 2) (dist + cost ch a3[j]) : Nat) : Int) := by
        rw [mi_is, mi_is]; omega
      rw [er]
      wtm_at "go"
      refine l_set C.tk (by wtm_at "pick") (by omega) (by have := hvs.1; omega) (by omega) ?_; clear C; intro s u C
      rw [Int.toNat_natCast] at C
      have hfs := fun k => (fast_step haj hd dist res mn k).symm.trans (hf k)
      generalize mi (mi res d + 2) (dist + cost ch a3[j]) = rr at *
      have hvs' : NatsL (vs.set j (.int (rr : Int) t)) (R'.set j rr) := by
        refine ⟨by simp [hvs.1], fun q n hn => ?_⟩
        rw [List.getElem?_set] at hn ⊢
        split at hn
        · rename_i e
          subst e
          split at hn
          · cases hn
            rw [if_pos rfl, if_pos (by have := hvs.1; omega)]; exact ⟨_, rfl⟩
          · cases hn
        · rename_i e
          rw [if_neg e]; exact hvs.2 q n hn
      rw [mi_is] at hfs
      wtm_at "go"
      refine ⟨fun q => ?_, fun q => ?_⟩
      · have hlt := of_decide_eq_true q
        wtm_at "go"
        refine hF.next hg3 C (by wtm_at "pick") (ls' := [("result", .int (rr : Int) _), ("distance", .int (d : Int) _), ("minimum", .int (rr : Int) _), ("bchar", .str ⟨#[ch]⟩ _), ("row", .ref l), ("b", .str (sv b3) t2), ("a", .str (sv a3) t1), ("max_cost", .int (c : Nat) tc)]) (by wtm_at "less") ⟨d, rr, rr, R'.set j rr, vs.set j (.int (rr : Int) t), _, _, _, _, by simp [hR'], hvs', fun k => ?_, rfl, rfl⟩
        have := hfs k
        rwa [Nat.min_eq_left (by omega)] at this
      · have hlt := of_decide_eq_false q
        wtm_at "go"
        refine hF.next hg3 C (by wtm_at "pick") (ls' := [("result", .int (rr : Int) _), ("distance", .int (d : Int) _), ("minimum", .int (mn : Int) _), ("bchar", .str ⟨#[ch]⟩ _), ("row", .ref l), ("b", .str (sv b3) t2), ("a", .str (sv a3) t1), ("max_cost", .int (c : Nat) tc)]) (by wtm_at "less") ⟨d, rr, mn, R'.set j rr, vs.set j (.int (rr : Int) t), _, _, _, _, by simp [hR'], hvs', fun k => ?_, rfl, rfl⟩
        have := hfs k
        rwa [Nat.min_eq_right (by omega)] at this
    · clear C
      rintro g'' s u ls mu E'' hg'' ⟨dist, res, mn, R', vs, u1, u2, u3, u4, hR', hvs, hf, rfl, rfl⟩ C
      rw [← hf, fast_end rfl hR'] at he
      wtm_at "go"
      refine ⟨fun q => ?_, fun q => ?_⟩
      · have hq : Nat.ble mn c = false := by
          have := of_decide_eq_true q
          cases e : Nat.ble mn c with
          | false => rfl
          | true => have := Nat.le_of_ble_eq_true e; omega
        rw [hq, cond_false] at he
        wtm_at "go"
        rw [← he] at ret
        exact hE.ret (ret _ _ _ _ C.tk.af ⟨_, rfl⟩)
      · have hq : Nat.ble mn c = true := by
          have := of_decide_eq_false q
          exact Nat.ble_eq_true_of_le (by omega)
        rw [hq, cond_true] at he
        wtm_at "go"
        exact hE.next hg'' C (by wtm_at "pick") (ls' := [("result", .int (res : Int) _), ("row", .ref l), ("b", .str (sv b3) t2), ("a", .str (sv a3) t1), ("max_cost", .int (c : Nat) tc)]) (by wtm_at "less") ⟨res, R', vs, _, hR', hvs, he, rfl, rfl⟩
  · clear C
    rintro g' s u ls mu E' hg' ⟨res, R, vs, t, hR, hvs, he, rfl, rfl⟩ C
    wtm_at "go"
    rw [List.drop_length, ofast] at he
    rw [← he] at ret
    exact ret _ _ _ _ C.tk.af ⟨_, rfl⟩
end
def cmpv (lt gt : Nat → Bool) (dir : Int) : Int := if lt 1 = true then -3 else if gt 1 = true then 3 else if lt 0 = true then -dir else if gt 0 = true then dir else 0
section
variable {prog : Program} {w : World} {A : Around} {p : Par} {env : Env} {l it : Addr}
theorem ht_tup {elts : List Expr} {x1 : Nat} {pos : Pos} : ∀ v s' Q E, WP (model prog w) A (assign (.Tuple elts x1 pos) env v) Q E s' → (∃ i g ls mu, Cx p g s' ls ((it, isLI l i) :: mu)) →
    WP (model prog w) A (letOwnedTupleGo (.Tuple elts x1 pos) (.ref it) v) (fun _ s'' => WP (model prog w) A (assign (.Tuple elts x1 pos) env v) Q E s'') E s' := by
  intro v s' Q E h ⟨i, g, ls, mu, C⟩
  constructor
  cases v with
  | ref T => exact wpAny_letOwnedTupleGo_listiter C.at h
  | _ => exact wpAny_of_eq rfl h
end
section
variable {prog : Program} {w : World} {g : Heap} {t u : Tok}
theorem compare_ct (B : Base (KK w) g) {c l t1 t2 : Addr} {dir : Int} {a1 a2 a3 a4 : Tok} {left right : Value} {lt gt : Nat → Bool} (LV RV : Nat → Value)
    (hc : InstOne g 38 "comp_select_list" c (.ref l)) (hl : OAt g l (isPL [.ref t1, .ref t2])) (h1 : OAt g t1 (isPT [.int 1 a1, .int 3 a2])) (h2 : OAt g t2 (isPT [.int 0 a3, .int dir a4]))
    (HL : ∀ (A : Around) (s : Shared) (n : Nat) (Q E : Value → Shared → Prop) (value : Expr) (ip : Pos) (k : Nat) (u : Tok), k < 2 → g.StaysIn s.heap → Q (LV k) (tk s n) → WP (model prog w) A (subscriptTail value (.Name "index" ip) left (.int (k : Nat) u)) Q E (tk s n))
    (HR : ∀ (A : Around) (s : Shared) (n : Nat) (Q E : Value → Shared → Prop) (value : Expr) (ip : Pos) (k : Nat) (u : Tok), k < 2 → g.StaysIn s.heap → Q (RV k) (tk s n) → WP (model prog w) A (subscriptTail value (.Name "index" ip) right (.int (k : Nat) u)) Q E (tk s n))
    (Hlt : ∀ (A : Around) (s : Shared) (Q E : Value → Shared → Prop) (k : Nat), k < 2 → Q (.bool (lt k)) s → WP (model prog w) A (compareOp .Lt (LV k) (RV k)) Q E s)
    (Hgt : ∀ (A : Around) (s : Shared) (Q E : Value → Shared → Prop) (k : Nat), k < 2 → Q (.bool (gt k)) s → WP (model prog w) A (compareOp .Gt (LV k) (RV k)) Q E s) :
    Ct prog w 1 g (.ref 35) [.ref c, left, right] (fun _ v => ∃ t, v = .int (cmpv lt gt dir) t) := by
  intro A s Q E fit hg ret
  refine enterQ (binds := [("self", .ref c), ("left", left), ("right", right)]) (ks := [("self", .local), ("left", .local), ("right", .local), ("index", .local), ("direction", .local), ("l", .local), ("r", .local)]) fit B hg rfl (by kernel_rfl) rfl (by kernel_rfl) (by kernel_rfl) (by kernel_rfl) (by kernel_rfl) rfl rfl rfl ?_
  intro A' env L s u QQ EE hQ _ fit H C
  wtm_at "go"
  refine e_attr ?_
  wtm_at "go"
  refine g_inst (r := none) B C hc (by kernel_rfl) (by kernel_rfl) (by kernel_rfl) (by kernel_rfl) (by kernel_rfl) ?_
  refine it_list C.tk (C.tk.of hl).isList ?_; clear C; intro it s u C
  refine for_loopQ (fun i _ ls mu => ls = ([("left", left), ("right", right)] : List Loc) ∧ mu = [] ∧ (1 ≤ i → lt 1 = false ∧ gt 1 = false) ∧ (2 ≤ i → lt 0 = false ∧ gt 0 = false)) (Src.list fit.hh hl.isList) (C.tk.less (ls' := [("left", left), ("right", right)]) (by wtm_at "less"))
    ⟨rfl, rfl, fun h => absurd h (by decide), fun h => absurd h (by decide)⟩ ht_tup ?_ ?_
  · clear C
    rintro i v g' s u ls mu E' Q1 hE hi hv hg' ⟨rfl, rfl, e1, e2⟩ C
    obtain ⟨k, d, a, b, tt, rfl, hT, hk, r1, r2, r3, r4⟩ : ∃ (k : Nat) (d : Int) (a b : Tok) (tt : Addr), v = .ref tt ∧ OAt g tt (isPT [.int (k : Nat) a, .int d b]) ∧ k < 2 ∧ (lt k = true → cmpv lt gt dir = -d) ∧ (lt k = false → gt k = true → cmpv lt gt dir = d) ∧
        (lt k = false → gt k = false → 1 ≤ i + 1 → lt 1 = false ∧ gt 1 = false) ∧ (lt k = false → gt k = false → 2 ≤ i + 1 → lt 0 = false ∧ gt 0 = false) := by
      match i, hi, hv, e1 with
      | 0, _, hv, _ => cases hv; exact ⟨1, 3, a1, a2, t1, rfl, h1, by decide, fun a => by unfold cmpv; rw [if_pos a], fun a b => by unfold cmpv; rw [if_neg (by rw [a]; decide), if_pos b], fun a b _ => ⟨a, b⟩, fun _ _ h => absurd h (by decide)⟩
      | 1, _, hv, e1 =>
        cases hv
        obtain ⟨q1, q2⟩ := e1 (Nat.le_refl _)
        exact ⟨0, dir, a3, a4, t2, rfl, h2, by decide, fun a => by unfold cmpv; rw [q1, q2]; simp [a], fun a b => by unfold cmpv; rw [q1, q2, a]; simp [b], fun _ _ _ => ⟨q1, q2⟩, fun a b _ => ⟨a, b⟩⟩
    refine a_two fit.hh C.tk ((hT.mono C.af.gg).mono C.tk.gh) ?_; clear C; intro s u C
    refine a_name ?_
    wtm_at "st"
    refine a_name ?_
    wtm_at "go"
    refine HL _ _ _ _ _ _ _ k _ hk (stays_trans C.af.gg C.gh) ?_
    wtm_at "go"
    refine HR _ _ _ _ _ _ _ k _ hk (stays_trans C.af.gg C.gh) ?_
    wtm_at "go"
    refine Hlt _ _ _ _ k hk ?_
    wtm_at "go"
    refine ⟨fun q => ?_, fun q => ?_⟩
    · wtm_at "go"
      exact hE.ret (hQ _ _ _ (ret _ _ _ C.tk.af ⟨_, by rw [r1 q]⟩))
    wtm_at "go"
    refine Hgt _ _ _ _ k hk ?_
    wtm_at "go"
    refine ⟨fun q' => ?_, fun q' => ?_⟩
    · wtm_at "go"
      exact hE.ret (hQ _ _ _ (ret _ _ _ C.tk.af ⟨_, by rw [r2 q q']⟩))
    wtm_at "go"
    exact hE.next (stays_refl _) C .here (ls' := [("left", left), ("right", right)]) (by wtm_at "less") ⟨rfl, rfl, r3 q q', r4 q q'⟩
  · clear C
    rintro g' s u ls mu E' hg' ⟨rfl, rfl, e1, e2⟩ C
    obtain ⟨q1, q2⟩ := e1 (Nat.le_of_ble_eq_true rfl)
    obtain ⟨q3, q4⟩ := e2 (Nat.le_of_ble_eq_true rfl)
    wtm_at "go"
    exact hQ _ _ _ (ret _ _ _ C.tk.af ⟨_, by unfold cmpv; rw [q1, q2, q3, q4]; rfl⟩)
end
theorem ty_lgi : typeOf (.builtin "list.__getitem__") = pure (.type "method_descriptor") := by kernel_rfl
theorem ty_sgi : typeOf (.builtin "str.__getitem__") = pure (.type "wrapper_descriptor") := by kernel_rfl
theorem slot_md_get : Slot "method_descriptor" "__get__" "method_descriptor.__get__" :=
  Slot.of (owner := "method_descriptor") (n := "__get__") (by rw [typeLookup_type, builtinLookup_eq_fast]; kernel_rfl) (by decide +kernel) (by decide +kernel) (by decide +kernel) (by first | exact .inl (by decide +kernel) | exact .inr ⟨by decide +kernel, by kernel_rfl⟩) (by rw [isSubtype_type]; kernel_rfl)
theorem slot_wd_get : Slot "wrapper_descriptor" "__get__" "wrapper_descriptor.__get__" :=
  Slot.of (owner := "wrapper_descriptor") (n := "__get__") (by rw [typeLookup_type, builtinLookup_eq_fast]; kernel_rfl) (by decide +kernel) (by decide +kernel) (by decide +kernel) (by first | exact .inl (by decide +kernel) | exact .inr ⟨by decide +kernel, by kernel_rfl⟩) (by rw [isSubtype_type]; kernel_rfl)
theorem lk_md_set : typeLookup (.type "method_descriptor") "__set__" = pure none := by rw [typeLookup_type, builtinLookup_eq_fast]; kernel_rfl
theorem entry_md_get : entryFor table "method_descriptor.__get__" = some Builtin.«method_descriptor.__get__» := entryFor_of_tree (by kernel_rfl)
theorem args_md_get (a b c : Value) : argsOk "method_descriptor.__get__" ⟨[a, b, c], []⟩ := by unfold argsOk; kernel_rfl
theorem told_not : (Manifest.toldItsClass.contains "list.__getitem__") = false := by decide +kernel
theorem owner_lgi : (".".intercalate ("list.__getitem__".cutAt '.').dropLast) = "list" := by
  have e0 : "list.__getitem__".cutAt '.' = ["list", "__getitem__"] := by first | rfl | decide +kernel
  rw [e0]; decide +kernel
theorem sub_lgi : isSubtype (.type "list") (.type (".".intercalate ("list.__getitem__".cutAt '.').dropLast)) = pure true := by
  rw [owner_lgi, isSubtype_type]; kernel_rfl
theorem lk_md_del : typeLookup (.type "method_descriptor") "__delete__" = pure none := by rw [typeLookup_type, builtinLookup_eq_fast]; kernel_rfl
section
variable {prog : Program} {w : World} {A : Around} {E : Value → Shared → Prop} {h : Heap} {g : Array GenState} {d : Drawn} {t : Nat} {os : OsState} {a : Addr} {o : Obj}
theorem lgi_get {R : Result → Shared → Prop} (hx : h.get? a = some o) (hc : o.cls = .type "list") (hq : ∀ o' x, R (.ok (.ret (.ref x))) ⟨h.push o', g, d, t, os⟩) :
    codeAny (model prog w) A (.call (.builtin "method_descriptor.__get__") ⟨[.builtin "list.__getitem__", .ref a, .type "list"], []⟩) R ⟨h, g, d, t, os⟩ := by
  have hT : (⟨h, g, d, t, os⟩ : Shared).TypeIs (.ref a) "list" := ⟨_, hx, hc⟩
  have hT5 : (⟨h, g, d, t, os⟩ : Shared).TypeIs (.builtin "list.__getitem__") "method_descriptor" := ty_lgi
  have f8 := sub_lgi
  have f9 := told_not
  refine codeAny_call_builtin slot_md_get.plain entry_md_get (slot_md_get.check _ _ _ _ _ _ _ _ hT5 (args_md_get _ _ _) ?_)
  iterate 14 (any_goals (first | assumption | wp_step))
  refine wpAny_bind (wpAny_of_eq (show _ = (pure (("__getitem__" : Str), Value.type "list") : Sem (Str × Value)) by kernel_rfl) ?_)
  dsimp only
  have f10 : isSubtype (.type "list") (.type "list") = pure true := by rw [isSubtype_type]; kernel_rfl
  refine wpAny_bind (wpAny_isInstance hT f10 ?_)
  rw [if_neg (by decide)]
  refine wpAny_pure ?_
  exact wpAny_bind (wpAny_newObj_type (wpAny_pure (hq _ _)))
theorem lgi_entry {tk : Tok} {Q : Fin → Shared → Prop} {vs : Array Value} {n : Nat} (hx : h.get? a = some { cls := .type "list", data := .seq vs n }) (hq : ∀ o' x, Q (.done (.ret (.ref x))) ⟨h.push o', g, d, t, os⟩) :
    wpAny (model prog w) A (Builtin.«object.__getattribute__» ⟨[.ref a, .str "__getitem__" tk], []⟩) Q E ⟨h, g, d, t, os⟩ := by
  have hT : (⟨h, g, d, t, os⟩ : Shared).TypeIs (.ref a) "list" := ⟨_, hx, rfl⟩
  have hT5 : (⟨h, g, d, t, os⟩ : Shared).TypeIs (.builtin "list.__getitem__") "method_descriptor" := ty_lgi
  have f4 : typeLookup (.type "list") "__getitem__" = pure (some (.builtin "list.__getitem__")) := slot_list_getitem.lookup
  have f5 := ty_lgi
  have f6 := slot_md_get.lookup
  have f7 := lk_md_set
  have f8 := lk_md_del
  repeat (any_goals (first | assumption | wp_step))
  refine lgi_get hx rfl fun o' x => ?_
  repeat (any_goals (first | assumption | wp_step))
  exact hq _ _
theorem lgi_call {tk : Tok} {R : Result → Shared → Prop} {vs : Array Value} {n : Nat} (hx : h.get? a = some { cls := .type "list", data := .seq vs n }) (hq : ∀ o' x, R (.ok (.ret (.ref x))) ⟨h.push o', g, d, t, os⟩) :
    codeAny (model prog w) A (.call (.builtin "list.__getattribute__") ⟨[.ref a, .str "__getitem__" tk], []⟩) R ⟨h, g, d, t, os⟩ :=
  codeAny_call_builtin F.slot_list_getattribute.plain F.entry_list_ga (F.slot_list_getattribute.check _ _ _ _ _ _ _ _ (show (⟨h, g, d, t, os⟩ : Shared).TypeIs (.ref a) "list" from ⟨_, hx, rfl⟩) (F.args_list_getattribute_2 _ _) (lgi_entry hx hq))
theorem lgi_by {tk : Tok} {Q : Value → Shared → Prop} {vs : Array Value} {n : Nat} (hx : h.get? a = some { cls := .type "list", data := .seq vs n }) (hq : ∀ o' x, Q (.ref x) ⟨h.push o', g, d, t, os⟩) :
    wpAny (model prog w) A (getAttrBy (.ref a) (.str "__getitem__" tk) false) Q E ⟨h, g, d, t, os⟩ := by
  have hT : (⟨h, g, d, t, os⟩ : Shared).TypeIs (.ref a) "list" := ⟨_, hx, rfl⟩
  have f2 := F.slot_list_getattribute.lookup
  have f3 := F.slot_list_getattribute.bind (.ref a)
  repeat (any_goals (first | assumption | wp_step))
  refine lgi_call hx fun o' x => ?_
  repeat (any_goals (first | assumption | wp_step))
  exact hq _ _
end
section
variable {prog : Program} {w : World} {A : Around} {E : Value → Shared → Prop} {h : Heap} {g : Array GenState} {d : Drawn} {t : Nat} {os : OsState} {a : Addr} {o : Obj}
theorem entry_has : entryFor table "hasattr" = some Builtin.«hasattr» := entryFor_of_tree (by kernel_rfl)
theorem args_has (a b : Value) : argsOk "hasattr" ⟨[a, b], []⟩ := by unfold argsOk; kernel_rfl
theorem has_l {tk : Tok} {Q : Fin → Shared → Prop} {vs : Array Value} {n : Nat} (hx : h.get? a = some { cls := .type "list", data := .seq vs n }) (hq : ∀ o', Q (.done (.ret (.bool true))) ⟨h.push o', g, d, t, os⟩) :
    wpAny (model prog w) A (Builtin.«hasattr» ⟨[.ref a, .str "__getitem__" tk], []⟩) Q E ⟨h, g, d, t, os⟩ := by
  have hT : (⟨h, g, d, t, os⟩ : Shared).TypeIs (.ref a) "list" := ⟨_, hx, rfl⟩
  have f2 := F.slot_list_getattribute.lookup
  have f4 : typeLookup (.type "list") "__getitem__" = pure (some (.builtin "list.__getitem__")) := slot_list_getitem.lookup
  have f5 : isSubtype (.type "list") (.type "module") = pure false := by rw [isSubtype_type]; kernel_rfl
  iterate 25 (any_goals (first | assumption | wp_step))
  refine wpAny_of_eq (show _ = (pure (some ("__getitem__" : Str)) : Sem (Option Str)) from rfl) ?_
  dsimp only
  refine wpAny_bind (wpAny_of_eq f4 ?_)
  dsimp only
  refine wpAny_bind (wpAny_of_eq f2 ?_)
  rw [if_neg (by decide +kernel)]
  refine wpAny_bind ?_
  iterate 6 (any_goals (first | assumption | wp_step))
  rw [if_pos (by decide)]
  refine wpAny_pure ?_
  rw [if_neg (by decide)]
  refine wpAny_bind ?_
  unfold getAttrBy?
  repeat (any_goals (first | assumption | with_reducible apply lgi_by hx | wp_step))
  intro o' x
  exact wpAny_pure (wpAny_pure (hq _))
end
section
variable {prog : Program} {w : World} {A : Around} {E : Value → Shared → Prop} {p : Par} {g : Heap} {s : Shared} {ls : List Loc} {mu : List Own} {Q : Value → Shared → Prop} {l : Addr} {vs : List Value} {t : Tok}
theorem b_has_list (C : Cx p g s ls mu) (hL : OAt s.heap l (isPL vs)) (h : ∀ s' u', Cx p g s' ls mu → Q (.bool true) (tk s' u')) : WP (model prog w) A (call (.builtin "hasattr") [.ref l, .str "__getitem__" t]) Q E s := by
  have h := un1 h
  obtain ⟨o, e, n, rfl⟩ := hL
  obtain ⟨hp, gs, dr, tks, os⟩ := s
  constructor
  refine call_function_any (by kernel_rfl) (by decide +kernel) entry_has (args_has _ _) (has_l e fun o' => ?_)
  exact h _ (C.grow rfl rfl rfl (push_stays _ _))
end
theorem lk_wd_set : typeLookup (.type "wrapper_descriptor") "__set__" = pure none := by rw [typeLookup_type, builtinLookup_eq_fast]; kernel_rfl
theorem entry_wd_get : entryFor table "wrapper_descriptor.__get__" = some Builtin.«wrapper_descriptor.__get__» := entryFor_of_tree (by kernel_rfl)
theorem args_wd_get (a b c : Value) : argsOk "wrapper_descriptor.__get__" ⟨[a, b, c], []⟩ := by unfold argsOk; kernel_rfl
theorem owner_sgi : (".".intercalate ("str.__getitem__".cutAt '.').dropLast) = "str" := by
  have e0 : "str.__getitem__".cutAt '.' = ["str", "__getitem__"] := by first | rfl | decide +kernel
  rw [e0]; decide +kernel
theorem sub_sgi : isSubtype (.type "str") (.type (".".intercalate ("str.__getitem__".cutAt '.').dropLast)) = pure true := by
  rw [owner_sgi, isSubtype_type]; kernel_rfl
theorem lk_wd_del : typeLookup (.type "wrapper_descriptor") "__delete__" = pure none := by rw [typeLookup_type, builtinLookup_eq_fast]; kernel_rfl
section
variable {prog : Program} {w : World} {A : Around} {E : Value → Shared → Prop} {h : Heap} {g : Array GenState} {d : Drawn} {t : Nat} {os : OsState} {y : Str} {u : Tok}
theorem sgi_get {R : Result → Shared → Prop} (hq : ∀ o' x, R (.ok (.ret (.ref x))) ⟨h.push o', g, d, t, os⟩) :
    codeAny (model prog w) A (.call (.builtin "wrapper_descriptor.__get__") ⟨[.builtin "str.__getitem__", .str y u, .type "str"], []⟩) R ⟨h, g, d, t, os⟩ := by
  have hT : (⟨h, g, d, t, os⟩ : Shared).TypeIs (.str y u) "str" := typeIs_str _ y u
  have hT5 : (⟨h, g, d, t, os⟩ : Shared).TypeIs (.builtin "str.__getitem__") "wrapper_descriptor" := ty_sgi
  have f8 := sub_sgi
  refine codeAny_call_builtin slot_wd_get.plain entry_wd_get (slot_wd_get.check _ _ _ _ _ _ _ _ hT5 (args_wd_get _ _ _) ?_)
  iterate 14 (any_goals (first | assumption | wp_step))
  refine wpAny_pure ?_
  rw [owner_sgi]
  dsimp only
  have f10 : isSubtype (.type "str") (.type "str") = pure true := by rw [isSubtype_type]; kernel_rfl
  refine wpAny_bind (wpAny_isInstance hT f10 ?_)
  rw [if_neg (by decide)]
  refine wpAny_pure ?_
  exact wpAny_bind (wpAny_newObj_type (wpAny_pure (hq _ _)))
theorem sgi_entry {tk : Tok} {Q : Fin → Shared → Prop} (hq : ∀ o' x, Q (.done (.ret (.ref x))) ⟨h.push o', g, d, t, os⟩) :
    wpAny (model prog w) A (Builtin.«object.__getattribute__» ⟨[.str y u, .str "__getitem__" tk], []⟩) Q E ⟨h, g, d, t, os⟩ := by
  have hT : (⟨h, g, d, t, os⟩ : Shared).TypeIs (.str y u) "str" := typeIs_str _ y u
  have hT5 : (⟨h, g, d, t, os⟩ : Shared).TypeIs (.builtin "str.__getitem__") "wrapper_descriptor" := ty_sgi
  have f4 : typeLookup (.type "str") "__getitem__" = pure (some (.builtin "str.__getitem__")) := F.slot_str_getitem.lookup
  have f5 := ty_sgi
  have f6 := slot_wd_get.lookup
  have f7 := lk_wd_set
  have f8 := lk_wd_del
  repeat (any_goals (first | assumption | wp_step))
  refine sgi_get fun o' x => ?_
  repeat (any_goals (first | assumption | wp_step))
  exact hq _ _
theorem sgi_call {tk : Tok} {R : Result → Shared → Prop} (hq : ∀ o' x, R (.ok (.ret (.ref x))) ⟨h.push o', g, d, t, os⟩) :
    codeAny (model prog w) A (.call (.builtin "object.__getattribute__") ⟨[.str y u, .str "__getitem__" tk], []⟩) R ⟨h, g, d, t, os⟩ :=
  codeAny_call_builtin F.slot_str_getattribute.plain F.entry_object_getattribute (F.slot_str_getattribute.check _ _ _ _ _ _ _ _ (show (⟨h, g, d, t, os⟩ : Shared).TypeIs (.str y u) "str" from typeIs_str _ y u) (F.args_object_getattribute_2 _ _) (sgi_entry hq))
theorem sgi_by {tk : Tok} {Q : Value → Shared → Prop} (hq : ∀ o' x, Q (.ref x) ⟨h.push o', g, d, t, os⟩) :
    wpAny (model prog w) A (getAttrBy (.str y u) (.str "__getitem__" tk) false) Q E ⟨h, g, d, t, os⟩ := by
  have hT : (⟨h, g, d, t, os⟩ : Shared).TypeIs (.str y u) "str" := typeIs_str _ y u
  have f2 := F.slot_str_getattribute.lookup
  have f3 := F.slot_str_getattribute.bind (.str y u)
  repeat (any_goals (first | assumption | wp_step))
  refine sgi_call fun o' x => ?_
  repeat (any_goals (first | assumption | wp_step))
  exact hq _ _
end
section
variable {prog : Program} {w : World} {A : Around} {E : Value → Shared → Prop} {h : Heap} {g : Array GenState} {d : Drawn} {t : Nat} {os : OsState} {y : Str} {u : Tok}
set_option maxHeartbeats 0 in
theorem has_s {tk : Tok} {Q : Fin → Shared → Prop} (hq : ∀ o', Q (.done (.ret (.bool true))) ⟨h.push o', g, d, t, os⟩) :
    wpAny (model prog w) A (Builtin.«hasattr» ⟨[.str y u, .str "__getitem__" tk], []⟩) Q E ⟨h, g, d, t, os⟩ := by
  have hT : (⟨h, g, d, t, os⟩ : Shared).TypeIs (.str y u) "str" := typeIs_str _ y u
  have f2 := F.slot_str_getattribute.lookup
  have f4 : typeLookup (.type "str") "__getitem__" = pure (some (.builtin "str.__getitem__")) := F.slot_str_getitem.lookup
  have f5 : isSubtype (.type "str") (.type "module") = pure false := by rw [isSubtype_type]; kernel_rfl
  iterate 22 (any_goals (first | assumption | wp_step))
  dsimp only
  refine wpAny_bind (wpAny_of_eq (show _ = (pure (Value.type "str") : Sem Value) from rfl) ?_)
  dsimp only
  refine wpAny_bind (wpAny_of_eq (show _ = (pure (some ("__getitem__" : Str)) : Sem (Option Str)) from rfl) ?_)
  dsimp only
  refine wpAny_bind (wpAny_of_eq f4 ?_)
  dsimp only
  refine wpAny_bind (wpAny_of_eq f2 ?_)
  rw [if_neg (by decide +kernel)]
  refine wpAny_bind ?_
  iterate 6 (any_goals (first | assumption | wp_step))
  all_goals (repeat (any_goals (first | assumption | with_reducible apply sgi_by | wp_step)))
  intro o' x
  exact wpAny_pure (wpAny_pure (hq _))
end
section
variable {prog : Program} {w : World} {A : Around} {E : Value → Shared → Prop} {p : Par} {g : Heap} {s : Shared} {ls : List Loc} {mu : List Own} {Q : Value → Shared → Prop} {y : Str} {t u : Tok}
theorem b_has_str (C : Cx p g s ls mu) (h : ∀ s' u', Cx p g s' ls mu → Q (.bool true) (tk s' u')) : WP (model prog w) A (call (.builtin "hasattr") [.str y u, .str "__getitem__" t]) Q E s := by
  have h := un1 h
  obtain ⟨hp, gs, dr, tks, os⟩ := s
  constructor
  refine call_function_any (by kernel_rfl) (by decide +kernel) entry_has (args_has _ _) (has_s fun o' => ?_)
  exact h _ (C.grow rfl rfl rfl (push_stays _ _))
end
section
variable {prog : Program} {w : World} {A : Around} {E : Value → Shared → Prop} {s : Shared} {Q : Value → Shared → Prop} {x y : Str} {t u : Tok} {n : Nat}
/-- x + y, drawn anew -/
theorem x_addstr1 (hx : x.length ≠ 0) (hy : y.length ≠ 0) (hl : x.length + y.length ≤ 1000) (h : Q (.str (x ++ y) n) (tk s (n + 1))) : WP (model prog w) A (binaryOp .Add (.str x t) (.str y u)) Q E (tk s n) := by
  have key : (if x.length == 0 then Made.val (.str y u) else if y.length == 0 then Made.val (.str x t) else Made.str (x ++ y)).post Q (tk s n) := by
    rw [if_neg (by simpa using hx), if_neg (by simpa using hy)]
    exact ⟨by rw [Str.length_append]; exact fits _ hl, h⟩
  with_reducible exact ⟨P.add_str key⟩
end
section
variable {prog : Program} {w : World} {g : Heap} {a b : Addr} {vs ws : List Value} {x y : Str} {t u : Tok}
theorem concat_list_ct (B : Base (KK w) g) (ha : OAt g a (isPL vs)) (hb : OAt g b (isPL ws)) (hn : vs.length + ws.length ≤ 1000) : Ct prog w 1 g (.ref 98) [.ref a, .ref b] (fun g' v => ∃ r, v = .ref r ∧ OAt g' r (isPL (vs ++ ws))) := by
  intro A s Q E fit hg ret
  refine enterQ (binds := [("a", .ref a), ("b", .ref b)]) (ks := [("a", .local), ("b", .local), ("hasattr", .globalImplicit)]) fit B hg rfl (by kernel_rfl) rfl (by kernel_rfl) (by kernel_rfl) (by kernel_rfl) (by kernel_rfl) rfl rfl rfl ?_
  intro A' env L s u QQ EE hQ _ fit H C
  wtm_at "go"
  refine b_has_list C.tk (C.tk.of ha) ?_; clear C; intro s u C
  wtm_at "go"
  refine ⟨fun h => (by cases h), fun _ => ?_⟩
  wtm_at "go"
  refine l_add (C.tk.of ha) (C.tk.of hb) C.tk hn ?_; clear C; intro s u r C
  obtain ⟨g'', C', hgg, hO⟩ := C.freeze
  exact hQ _ _ _ (ret _ _ _ C'.tk.af ⟨r, rfl, hO⟩)
theorem concat_str_ct (B : Base (KK w) g) (hx : x.length ≠ 0) (hy : y.length ≠ 0) (hl : x.length + y.length ≤ 1000) {A : Around} {s : Shared} {Q E : Value → Shared → Prop} {N n : Nat} (fit : Fit n A) (hn1 : 1 ≤ n) (hg : g.StaysIn s.heap) (hN : N + 1 ≤ s.toks)
    (ret : ∀ g' s' t, After g s g' s' → N ≤ t → t < s'.toks → Q (.str (x ++ y) t) s') : WP (model prog w) A (call (.ref 98) [.str x t, .str y u]) Q E s := by
  have fit : Fit 1 A := fit.le hn1
  refine WP.ge hN ?_
  refine enterQ (binds := [("a", .str x t), ("b", .str y u)]) (ks := [("a", .local), ("b", .local), ("hasattr", .globalImplicit)]) fit B hg rfl (by kernel_rfl) rfl (by kernel_rfl) (by kernel_rfl) (by kernel_rfl) (by kernel_rfl) rfl rfl rfl ?_
  intro A' env L s u QQ EE hQ _ fit H C
  wtm_at "go"
  refine b_has_str C.tk ?_; clear C; intro s u C
  wtm_at "go"
  refine ⟨fun h => (by cases h), fun _ => ?_⟩
  wtm_at "go"
  refine x_addstr1 hx hy hl ?_
  exact hQ _ _ _ fun hp => ret _ _ _ C.tk.af (Nat.le_of_succ_le_succ hp) (Nat.lt_succ_self _)
theorem indexOf_ct (B : Base (KK w) g) {xs : List (Str × Tok)} {j : Nat} (ha : OAt g a (isPL (xs.map sV))) (hj : xs[j]? = some (x, t)) (hno : ∀ (m : Nat) q, m < j → xs[m]? = some q → q.1 ≠ x) (ht : ∀ q ∈ xs, q.2 ≠ 0) (htok : ∀ q ∈ xs, q.2 = t → q.1 = x) :
    Ct prog w 1 g (.ref 105) [.ref a, .str x t] (fun _ v => ∃ u, v = .int (j : Nat) u) := by
  intro A s Q E fit hg ret
  refine enterQ (binds := [("a", .ref a), ("b", .str x t)]) (ks := [("a", .local), ("b", .local), ("i", .local), ("j", .local), ("enumerate", .globalImplicit)]) fit B hg rfl (by kernel_rfl) rfl (by kernel_rfl) (by kernel_rfl) (by kernel_rfl) (by kernel_rfl) rfl rfl rfl ?_
  intro A' env L s u QQ EE hQ _ fit H C
  have hj' : j < (xs.map sV).length := by rw [List.length_map]; exact (List.getElem?_eq_some_iff.mp hj).1
  have h0 : t ≠ 0 := ht _ (List.mem_of_getElem? hj)
  wtm_at "go"
  refine c_enum C.tk (C.tk.of ha).isList ?_; clear C; intro s u e it C
  refine it_enum C.tk ?_
  refine for_enum (fun i _ ls mu => ls = ([("b", .str x t)] : List Loc) ∧ mu = [] ∧ i ≤ j) fit.hh ha.isList (C.tk.less (ls' := [("b", .str x t)]) (by wtm_at "less")) ⟨rfl, rfl, Nat.zero_le _⟩ ?_ ?_
  · clear C
    rintro i v g' s u ls mu t' E' Q1 hN hR hi hg' ⟨rfl, rfl, hle⟩ C
    obtain ⟨q, hq, rfl⟩ : ∃ q, xs[i]? = some q ∧ sV q = v := by simpa using hi
    refine a_name ?_
    wtm_at "st"
    refine a_name ?_
    wtm_at "go"
    have hij : q.1 = x → i = j := fun e => by
      rcases Nat.lt_or_eq_of_le hle with hlt | rfl
      · exact absurd e (hno i q hlt hq)
      · rfl
    have hqj : q.2 = t ∨ q.1 ≠ x := by
      rcases Nat.lt_or_eq_of_le hle with hlt | rfl
      · exact .inr (hno i q hlt hq)
      · rw [hj] at hq; cases hq; exact .inl rfl
    have hne : q.1 ≠ x → i + 1 ≤ j := fun e => by
      rcases Nat.lt_or_eq_of_le hle with hlt | rfl
      · exact hlt
      · rw [hj] at hq; cases hq; exact absurd rfl e
    refine c_is (ht _ (List.mem_of_getElem? hq)) h0 hqj ?_
    wtm_at "go"
    refine ⟨fun hb => ⟨fun _ => ?_, fun h => (by cases h)⟩, fun hb => ?_⟩
    · have := hij (htok q (List.mem_of_getElem? hq) (of_decide_eq_true hb))
      subst this
      wtm_at "go"
      exact hR (hQ _ _ _ (ret _ _ _ C.tk.af ⟨_, rfl⟩))
    · wtm_at "go"
      refine ⟨fun hb => ⟨fun _ => ?_, fun h => (by cases h)⟩, fun hb => ?_⟩
      · have := hij (of_decide_eq_true hb)
        subst this
        wtm_at "go"
        exact hR (hQ _ _ _ (ret _ _ _ C.tk.af ⟨_, rfl⟩))
      · have := hne (of_decide_eq_false hb)
        wtm_at "go"
        refine ⟨fun h => (by cases h), fun _ => ?_⟩
        wtm_at "go"
        exact hN (stays_refl _) (C.less (ls' := [("b", .str x t)]) (by wtm_at "less")) ⟨rfl, rfl, this⟩
  · rintro g' s u ls mu E' hg' ⟨rfl, rfl, hle⟩ C
    exact absurd hj' (Nat.not_lt.mpr hle)
end
section
variable {prog : Program} {w : World} {g : Heap} {a : Addr} {ns : List (Int × Tok)}
theorem cells_ct (B : Base (KK w) g) (ha : g.IsList a (ns.map iV).toArray) (hn : ns.length ≤ 63) : Ct prog w 1 g (.ref 126) [.ref a] (fun g' v => ∃ (r : Addr) (cs : List (Int × Tok)), v = .ref r ∧ OAt g' r (isL (cs.map iV)) ∧ cs.length = 16) := by
  intro A s Q E fit hg ret
  refine enterQ (binds := [("script", .ref a)]) (ks := [("script", .local), ("cells", .local), ("k", .local), ("range", .globalImplicit), ("len", .globalImplicit)]) fit B hg rfl (by kernel_rfl) rfl (by kernel_rfl) (by kernel_rfl) (by kernel_rfl) (by kernel_rfl) rfl rfl rfl ?_
  intro A' env L s u QQ EE hQ _ fit H C
  wtm_at "go"
  refine l_list ?_
  wtm_at "go"
  refine ⟨Nat.le_of_ble_eq_true rfl, _, _, _, _, C.tk, ?_⟩; clear C; intro s u c C
  obtain ⟨cs, C', hl⟩ := ints_own C rfl; clear C; rename Cx _ _ _ _ _ => C
  have hl : cs.length = 16 := hl
  wtm_at "go"
  have hla : (ns.map iV).length = ns.length := List.length_map ..
  refine l_len (ha.at fun o e => C.gh _ _ e) (by rw [hla]; omega) ?_
  rw [hla]
  wtm_at "go"
  refine c_range C.tk ?_; clear C; intro s u r C
  wtm_at "go"
  refine it_range C.tk (by omega) ?_; clear C; intro s u it C
  refine for_loopQ (fun i _ ls mu => ls = ([("cells", .ref c), ("script", .ref a)] : List Loc) ∧ ∃ cs : List (Int × Tok), mu = ([(c, isL (cs.map iV))] : List Own) ∧ cs.length = 16) (Src.range fit.hh 0 ns.length) C.tk ⟨rfl, cs, rfl, hl⟩ ht_name ?_ ?_
  · clear C
    rintro i v g' s u ls mu E' Q1 hE hi ⟨t, rfl⟩ hg' ⟨rfl, cs, rfl, hl⟩ C
    refine a_name ?_
    wtm_at "go"
    have hk : 0 ≤ ((0 : Int) + i).fmod 16 ∧ ((0 : Int) + i).fmod 16 < 16 := ⟨Int.fmod_nonneg_of_pos _ (by decide), Int.fmod_lt_of_pos _ (by decide)⟩
    generalize hkk : ((0 : Int) + i).fmod 16 = k at hk ⊢
    have h1 : k.toNat < cs.length := by omega
    have hL : s.heap.IsList c (cs.map iV).toArray := C.my (.tail _ (.head _))
    refine l_item hL hk.1 (by omega) (map_get (List.getElem?_eq_getElem h1)) ?_
    wtm_at "go"
    have h2 : ((0 : Int) + i).toNat < ns.length := by omega
    refine l_item (ha.at fun o e => C.gh _ _ (hg' _ _ e)) (by omega) (by omega) (map_get (List.getElem?_eq_getElem h2)) ?_
    wtm_at "go"
    rw [hkk]
    refine l_set C.tk (.there .here) hk.1 (by rw [List.length_map]; omega) (by omega) ?_; clear C; intro s u C
    wtm_at "go"
    refine hE.next (stays_refl _) C (.there .here) (ls' := [("cells", .ref c), ("script", .ref a)]) (by wtm_at "less") ⟨rfl, cs.set k.toNat (_, _), by rw [List.map_set], by rw [List.length_set]; exact hl⟩
  · clear C
    rintro g' s u ls mu E' hg' ⟨rfl, cs, rfl, hl⟩ C
    wtm_at "go"
    obtain ⟨g'', C', hgg, hO⟩ := C.freeze
    exact hQ _ _ _ (ret _ _ _ C'.tk.af ⟨c, cs, rfl, hO, hl⟩)
end
/-- the sides that the one's name is in -/
def tolds (S : Str → Int) (l : Str) (os : List Str) : List Int := os.foldl (fun acc x => acc ++ acc.map (· + S x)) [S l]
def HasI (kvs : List (Str × Value)) (S : Str → Int) (x : Str) : Prop := ∃ t, valueAt kvs x = some (.int (S x) t)
theorem tolds_snoc (S : Str → Int) (l x : Str) (os : List Str) : tolds S l (os ++ [x]) = tolds S l os ++ (tolds S l os).map (· + S x) := by simp [tolds]
theorem tolds_len (S : Str → Int) : ∀ (os : List Str) (acc : List Int), (os.foldl (fun acc x => acc ++ acc.map (· + S x)) acc).length = acc.length * 2 ^ os.length
  | [], acc => by simp
  | x :: r, acc => by simp only [List.foldl_cons, tolds_len S r, List.length_append, List.length_map, List.length_cons, Nat.pow_succ]; rw [← Nat.two_mul, Nat.mul_comm 2, Nat.mul_assoc, Nat.mul_comm 2]
inductive LeastJ (L a d : Addr) (S : Str → Int) (l : Str) (os : List Str) : Nat → Heap → List Loc → List Own → Prop
  | mk {i : Nat} {g : Heap} {T : Addr} {ts : List (Int × Tok)} {nv : Option Value} : OAt g T (isPL (ts.map iV)) → ts.map (·.1) = tolds S l (os.take i) →
      LeastJ L a d S l os i g [("told", .ref T)] [(L + 1, isCell (some (.ref a))), (L + 1 + 1, isCell (some (.ref d))), (L + 1 + 1 + 1, isCell nv)]
section
variable {prog : Program} {w : World} {g : Heap} {a d o : Addr} {cu : List (Int × Tok)} {kvs : List (Str × Value)} {os : List (Str × Tok)} {l : Str} {tl : Tok} {S : Str → Int}
set_option maxHeartbeats 0 in
theorem least_ct (B : Base (KK w) g) (ha : OAt g a (isPL (cu.map iV))) (hcu : cu.length = 32) (hd : g.DictOf (strKind prog w) d kvs) (ho : OAt g o (isPL (os.map sV))) (hos : os.length ≤ 3) (hl : HasI kvs S l) (hS : ∀ q ∈ os, HasI kvs S q.1)
    (hin : ∀ k ∈ tolds S l (os.map (·.1)), 0 ≤ k ∧ k < 32) :
    Ct prog w 1 g (.ref 170) [.ref a, .ref d, .ref o, .str l tl] (fun _ v => ∃ m t, v = .int m t ∧ m ∈ (tolds S l (os.map (·.1))).map (fun k => (cu.map (·.1)).getD k.toNat 0) ∧ ∀ k ∈ (tolds S l (os.map (·.1))).map (fun k => (cu.map (·.1)).getD k.toNat 0), m ≤ k) := by
  intro A s Q E fit hg ret
  refine enterC (binds := [("cuts", .ref a), ("sides", .ref d), ("others", .ref o), ("last", .str l tl)]) (bl := [("others", .ref o), ("last", .str l tl)]) (cs := [("cuts", some (.ref a)), ("sides", some (.ref d)), ("name", none)])
    (ks := [("others", .local), ("last", .local), ("told", .local), ("min", .globalImplicit)]) fit B hg rfl (by kernel_rfl) rfl (by kernel_rfl) (by kernel_rfl) (by kernel_rfl) (by kernel_rfl) (by kernel_rfl) (by kernel_rfl) (by kernel_rfl) rfl rfl rfl ?_
  intro A' env L s u QQ EE hQ _ fit H Z C
  dsimp only [cellAdr, cellOwn] at Z C
  wtm_at "go"
  refine l_list ?_
  wtm_at "go"
  obtain ⟨tS, hl⟩ := hl
  have hle : ∀ (i : Nat) (ts : List (Int × Tok)), ts.map (·.1) = tolds S l ((os.map (·.1)).take i) → ts.length ≤ 8 := fun i ts hts => by
    have : (ts.map (·.1)).length ≤ 8 := by
      rw [hts, tolds, tolds_len, List.length_take, List.length_map]
      exact Nat.le_trans (Nat.mul_le_mul_left _ (Nat.pow_le_pow_right (by decide) (show min i os.length ≤ 3 by omega))) (Nat.le_of_ble_eq_true rfl)
    rwa [List.length_map] at this
  refine d_itemS (hd.at fun _ e => C.gh _ _ e) hl ?_; intro m
  wtm_at "go"
  refine ⟨Nat.le_of_ble_eq_true rfl, _, _, _, _, C.tk, ?_⟩; clear C; intro s u T C
  obtain ⟨g1, C, hg1, hT⟩ := C.freeze
  wtm_at "go"
  replace hT : OAt g1 T (isPL (([(S l, tS)] : List (Int × Tok)).map iV)) := hT
  refine it_list C.tk (C.tk.of (ho.mono hg1)).isList ?_; clear C; intro it s u C
  refine for_loopQ (LeastJ L a d S l (os.map (·.1))) (Src.list fit.hh (ho.mono hg1).isList) (C.tk.less (ls' := [("told", .ref T)]) (by wtm_at "less")) (.mk hT rfl) ht_name ?_ ?_
  · clear C
    rintro i v g' s u ls mu E' Q1 hE hi hv hg' ⟨hT, hts⟩ C
    rename_i T ts nv
    obtain ⟨q, hq, rfl⟩ : ∃ q, os[i]? = some q ∧ sV q = v := by simpa using hv
    obtain ⟨tq, hq'⟩ := hS q (List.mem_of_getElem? hq)
    refine a_name ?_
    wtm_at "go"
    refine e_lc Z (CompScope.of (fr := [("name", L + 1 + 1 + 1, .str q.1 q.2), ("sides", L + 1 + 1, .ref d)]) (ks' := [("side", .local)]) ["name", "sides"] rfl (by kernel_rfl) rfl (by kernel_rfl)) (by wtm_at "less") ?_ (fun _ => rfl)
    intro ZC
    wtm_at "go"
    have htl := hle _ _ hts
    refine it_list C.tk (C.tk.of hT).isList ?_; clear C; intro I s u C
    refine lc_plain (Src.list fit.hh hT.isList) (by rw [List.length_map]; omega) C.tk H ZC (frs_of Z (by wtm_at "frs")) (MapJ fun j => (ts.map (·.1)).getD j 0 + S q.1) .nil ?_ ?_
    · clear C
      intro S' L' cenv D Q2 K2 H Y j v g2 ys s u E2 hE2 hj hv hg2 hJ C
      dsimp only [cpOf, List.map] at Y
      obtain ⟨z, hz, rfl⟩ : ∃ z, ts[j]? = some z ∧ iV z = v := by simpa using hv
      wtm_at "st"
      wtm_at "tst"
      wtm_at "go"
      refine d_itemS (hd.at fun _ e => C.gh _ _ (hg2 _ _ (hg' _ _ (hg1 _ _ e)))) hq' ?_; intro m
      wtm_at "go"
      exact hE2.made (stays_refl _) C .here .here (hJ.snoc (by simp [hz]))
    · clear C
      rintro g2 s u D _ hg2 ⟨hys⟩ C
      rename_i zs
      rw [range_map (ts.map iV) (fun v => (unI v) + S q.1) _ (fun j v h => by
        obtain ⟨z, hz, rfl⟩ : ∃ z, ts[j]? = some z ∧ iV z = v := by simpa using h
        simp [hz, unI]), List.map_map] at hys
      refine l_add (C.tk.of (hT.mono hg2)) (C.my (.head _)) C.tk (by
        have := congrArg List.length hys
        simp only [List.length_map] at this ⊢; omega) ?_; clear C; intro s u R C
      obtain ⟨g3, C, hg3, hR⟩ := C.freeze
      wtm_at "go"
      rw [← List.map_append] at hR
      have C := C.sel (mu' := [(it, isLI o (i + 1)), (L + 1, isCell (some (.ref a))), (L + 1 + 1, isCell (some (.ref d))), (L + 1 + 1 + 1, isCell (some (sV q)))]) (by wtm_at "sel")
      refine hE.next (ls' := [("told", .ref R)]) (stays_trans hg2 hg3) C .here (by wtm_at "less") (.mk hR ?_)
      rw [List.map_append, hys, take_snoc (x := q.1) (by rw [List.getElem?_map, hq]; rfl), tolds_snoc, ← hts, List.map_map]
      rfl
  · clear C
    rintro g' s u ls mu E' hg' ⟨hT, hts⟩ C
    rename_i T ts nv
    wtm_at "go"
    refine e_lc Z (CompScope.of (fr := [("cuts", L + 1, .ref a)]) (ks' := [("side", .local)]) ["cuts"] rfl (by kernel_rfl) rfl (by kernel_rfl)) (by wtm_at "less") ?_ (fun _ => rfl)
    intro ZC
    wtm_at "go"
    have htl := hle _ _ hts
    rw [List.length_map, List.take_of_length_le (by rw [List.length_map]; exact Nat.le_refl _)] at hts
    refine it_list C.tk (C.tk.of hT).isList ?_; clear C; intro I s u C
    refine lc_plain (Src.list fit.hh hT.isList) (by rw [List.length_map]; omega) C.tk H ZC (frs_of Z (by wtm_at "frs")) (MapJ fun j => (cu.map Prod.fst).getD ((ts.map Prod.fst).getD j 0).toNat 0) .nil ?_ ?_
    · clear C
      intro S' L' cenv D Q2 K2 H Y j v g2 ys s u E2 hE2 hj hv hg2 hJ C
      dsimp only [cpOf, List.map] at Y
      obtain ⟨z, hz, rfl⟩ : ∃ z, ts[j]? = some z ∧ iV z = v := by simpa using hv
      have hz2 := hin z.1 (by rw [← hts]; exact List.mem_map_of_mem (List.mem_of_getElem? hz))
      have h1 : z.1.toNat < cu.length := by omega
      wtm_at "st"
      wtm_at "tst"
      wtm_at "go"
      refine l_item (ha.mono (stays_trans hg1 (stays_trans hg' (stays_trans hg2 C.gh)))).isList hz2.1 (by omega) (map_get (List.getElem?_eq_getElem h1)) ?_
      exact hE2.made (stays_refl _) C .here .here (hJ.snoc (by simp [hz, h1]))
    · clear C
      rintro g2 s u D _ hg2 ⟨hys⟩ C
      rename_i zs
      rw [range_map (ts.map iV) (fun v => (cu.map Prod.fst).getD (unI v).toNat 0) _ (fun j v h => by
        obtain ⟨z, hz, rfl⟩ : ∃ z, ts[j]? = some z ∧ iV z = v := by simpa using h
        simp [hz, unI]), List.map_map] at hys
      wtm_at "go"
      have e : zs.map (·.1) = (tolds S l (os.map (·.1))).map fun k => (cu.map (·.1)).getD k.toNat 0 := by
        rw [hys, ← hts, List.map_map]; rfl
      refine c_min fit.hh C.tk (C.my (.head _)) (fun h => ?_) ?_
      · rw [h] at e
        have := congrArg List.length e
        simp only [List.length_map, tolds, tolds_len, List.length_nil, List.length_cons, Nat.zero_add, Nat.one_mul] at this
        exact absurd this.symm (Nat.ne_of_gt (Nat.pow_pos (by decide)))
      · clear C
        intro s u m t C hm hm'
        rw [e] at hm hm'
        exact hQ _ _ _ (ret _ _ _ C.tk.af ⟨m, t, rfl, hm, hm'⟩)
end
def at32 (cu : List (Int × Tok)) (k : Int) : Int := (cu.map Prod.fst).getD k.toNat 0
/-- what is called ahead of a place -/
def calledAt (S : Str → Int) (xs : List Str) (i : Nat) : Int := ((xs.take i).map S).sum
/-- what a name is called for: twice its ties, its place in turn -/
def callX (cu : List (Int × Tok)) (S : Str → Int) (C : Int) (x : Str) : Int := at32 cu C + at32 cu (S x) - at32 cu (C + S x)
theorem calledAt_succ {S : Str → Int} {xs : List Str} {i : Nat} {x : Str} (h : xs[i]? = some x) : calledAt S xs (i + 1) = calledAt S xs i + S x := by
  unfold calledAt
  rw [take_snoc h, List.map_append, List.sum_append]; simp
theorem at32_item {cu : List (Int × Tok)} {k : Int} (hcu : cu.length = 32) (h0 : 0 ≤ k) (h1 : k < 32) : ∃ t, (cu.map iV)[k.toNat]? = some (.int (at32 cu k) t) := by
  have h2 : k.toNat < cu.length := by omega
  exact ⟨cu[k.toNat].2, by rw [map_get (List.getElem?_eq_getElem h2)]; simp [at32, h2]⟩
def keyX (cu : List (Int × Tok)) (S : Str → Int) (C : Int) (ys : List (Str × Tok)) (j : Nat) : Int := (ys.map fun q => callX cu S C q.1).getD j 0
def keyY (tn : Int) (pl : Str → Nat) (ys : List (Str × Tok)) (j : Nat) : Int := (ys.map fun q => tn * (pl q.1 : Nat)).getD j 0
theorem keyX_at {cu : List (Int × Tok)} {S : Str → Int} {C : Int} {ys : List (Str × Tok)} {j : Nat} {q : Str × Tok} (h : ys[j]? = some q) : keyX cu S C ys j = callX cu S C q.1 := by simp [keyX, h]
theorem keyY_at {tn : Int} {pl : Str → Nat} {ys : List (Str × Tok)} {j : Nat} {q : Str × Tok} (h : ys[j]? = some q) : keyY tn pl ys j = tn * (pl q.1 : Nat) := by simp [keyY, h]
inductive TurnJ (L a d r : Addr) (tn : Int) (tt : Tok) (l : Addr) (S : Str → Int) (xs : List Str) : Nat → Heap → List Loc → List Own → Prop
  | mk {i : Nat} {g : Heap} {t : Tok} : TurnJ L a d r tn tt l S xs i g [("line", .ref l)] [(L + 1, isCell (some (.ref a))), (L + 1 + 1, isCell (some (.ref d))), (L + 1 + 1 + 1, isCell (some (.int tn tt))), (L + 1 + 1 + 1 + 1, isCell (some (.ref r))), (L + 1 + 1 + 1 + 1 + 1, isCell (some (.int (calledAt S xs i) t)))]
theorem Fit.units1 {n : Nat} {A : Around} (f : Fit n A) : A.in1.units < cLine := by have := f.u; have := cLine_is; show A.units + 1 < cLine; omega
inductive PairsJ (kx ky : Nat → Int) : Nat → Heap → List Value → Prop
  | mk {j : Nat} {g : Heap} {ys : List Value} : ys.length = j → (∀ (i : Nat) (y : Value), ys[i]? = some y → PairAt g (kx i) (ky i) y) → PairsJ kx ky j g ys
theorem PairsJ.snoc {kx ky : Nat → Int} {j : Nat} {g g' : Heap} {ys : List Value} {y : Value} (h : PairsJ kx ky j g ys) (hg : g.StaysIn g') (hy : PairAt g' (kx j) (ky j) y) : PairsJ kx ky (j + 1) g' (ys ++ [y]) := by
  obtain ⟨h1, h2⟩ := h
  refine ⟨by simp [h1], fun i z hz => ?_⟩
  rcases Nat.lt_or_ge i ys.length with hi | hi
  · rw [List.getElem?_append_left hi] at hz
    obtain ⟨a, t, u, rfl, h⟩ := h2 i z hz
    exact ⟨a, t, u, rfl, h.mono hg⟩
  · rw [List.getElem?_append_right hi] at hz
    have : i - ys.length = 0 := by
      cases e : i - ys.length with
      | zero => rfl
      | succ n => rw [e] at hz; simp at hz
    rw [this] at hz
    cases hz
    have : i = j := by omega
    subst this; exact hy
theorem idx_of {kvs : List (Str × Value)} {lk : List (Str × Tok)} (hnd : (kvs.map (·.1)).Nodup) (hlk : lk.map (·.1) = kvs.map (·.1)) {k : Nat} {x : Str} (h : (kvs.map (·.1))[k]? = some x) :
    ∃ q, lk[k]? = some q ∧ q.1 = x ∧ ∀ (m : Nat) q', m < k → lk[m]? = some q' → q'.1 ≠ x := by
  rw [← hlk] at h hnd
  rw [List.getElem?_map] at h
  cases e : lk[k]? with
  | none => rw [e] at h; cases h
  | some q =>
    rw [e] at h
    cases h
    refine ⟨q, rfl, rfl, fun m q' hm hq' e' => ?_⟩
    have h1 : (lk.map (·.1))[m]? = some q.1 := by rw [List.getElem?_map, hq']; exact congrArg some e'
    have h2 : (lk.map (·.1))[k]? = some q.1 := by rw [List.getElem?_map, e]; rfl
    have hk : k < (lk.map (·.1)).length := (List.getElem?_eq_some_iff.mp h2).1
    have := (List.getElem?_inj (Nat.lt_trans hm hk) hnd).mp (h1.trans h2.symm)
    omega
section
variable {prog : Program} {w : World} {g : Heap} {a d l : Addr} {cu : List (Int × Tok)} {kvs : List (Str × Value)} {xs : List (Str × Tok)} {tn : Int} {tt : Tok} {S : Str → Int} {pl : Str → Nat}
set_option maxHeartbeats 0 in
theorem turn_ct (B : Base (KK w) g) (ha : OAt g a (isPL (cu.map iV))) (hcu : cu.length = 32) (hd : g.DictOf (strKind prog w) d kvs) (hd0 : (d == sysModules) = false) (hkv : kvs.length ≤ 5) (hl : OAt g l (isPL (xs.map sV))) (hxs : xs.length ≤ 5) (htn : -1 ≤ tn ∧ tn ≤ 1)
    (hS : ∀ q ∈ xs, HasI kvs S q.1) (hpl : ∀ q ∈ xs, (kvs.map (·.1))[pl q.1]? = some q.1)
    (hb1 : ∀ i, i ≤ xs.length → 0 ≤ calledAt S (xs.map (·.1)) i ∧ calledAt S (xs.map (·.1)) i < 32) (hb2 : ∀ q ∈ xs, 0 ≤ S q.1 ∧ S q.1 < 32)
    (hb3 : ∀ (i k : Nat) q, i ≤ k → xs[k]? = some q → 0 ≤ calledAt S (xs.map (·.1)) i + S q.1 ∧ calledAt S (xs.map (·.1)) i + S q.1 < 32)
    (hord : ∀ (i k : Nat) q q', i ≤ k → xs[i]? = some q → xs[k]? = some q' → gtP (callX cu S (calledAt S (xs.map (·.1)) i) q'.1) (tn * (pl q'.1 : Nat)) (callX cu S (calledAt S (xs.map (·.1)) i) q.1) (tn * (pl q.1 : Nat)) = false) :
    Ct prog w 1 g (.ref 165) [.ref a, .ref d, .ref l, .int tn tt] (fun _ v => v = .bool true) := by
  intro A s Q E fit hg ret
  refine enterC (binds := [("cuts", .ref a), ("sides", .ref d), ("line", .ref l), ("turn", .int tn tt)]) (bl := [("line", .ref l)]) (cs := [("cuts", some (.ref a)), ("sides", some (.ref d)), ("turn", some (.int tn tt)), ("live", none), ("called", none)])
    (ks := [("line", .local), ("place", .local), ("best", .local), ("list", .globalImplicit), ("range", .globalImplicit), ("len", .globalImplicit), ("max", .globalImplicit)]) fit B hg rfl (by kernel_rfl) rfl (by kernel_rfl) (by kernel_rfl) (by kernel_rfl) (by kernel_rfl) (by kernel_rfl) (by kernel_rfl) (by kernel_rfl) rfl rfl rfl ?_
  intro A' env L s u QQ EE hQ _ fit H Z C
  dsimp only [cellAdr, cellOwn] at Z C
  wtm_at "go"
  refine c_listd fit.hh C.tk (hd.at fun _ e => C.gh _ _ e) hd0 (by omega) ?_; clear C; intro s u r lk hlk C
  obtain ⟨g1, C, hg1, hr⟩ := C.freeze
  wtm_at "go"
  refine l_len (C.tk.of (hl.mono hg1)).isList (by rw [List.length_map]; omega) ?_
  rw [List.length_map]
  wtm_at "go"
  refine c_range C.tk ?_; clear C; intro s u rg C
  wtm_at "go"
  refine it_range C.tk (by omega) ?_; clear C; intro it s u C
  have hnd : (kvs.map (·.1)).Nodup := by obtain ⟨_, _, _, _, _, _, _, _, h⟩ := hd; exact h
  have C := C.sel (mu' := [(it, isRI 0 xs.length 0), (L + 1, isCell (some (.ref a))), (L + 1 + 1, isCell (some (.ref d))), (L + 1 + 1 + 1, isCell (some (.int tn tt))), (L + 1 + 1 + 1 + 1, isCell (some (.ref r))), (L + 1 + 1 + 1 + 1 + 1, isCell (some (.int 0 _)))]) (by wtm_at "sel")
  refine for_loopQ (TurnJ L a d r tn tt l S (xs.map (·.1))) (Src.range fit.hh 0 xs.length) C.tk .mk ht_name ?_ ?_
  · clear C
    rintro i v g' s u ls mu E' Q1 hE hi ⟨t, rfl⟩ hg' hJ C
    cases hJ
    rename_i tc
    obtain ⟨q, hq⟩ : ∃ q, xs[i]? = some q := ⟨_, List.getElem?_eq_getElem hi⟩
    generalize hCi : calledAt S (xs.map (·.1)) i = Ci at *
    refine a_name ?_
    wtm_at "go"
    refine e_lc Z (CompScope.of (fr := [("called", L + 1 + 1 + 1 + 1 + 1, .int Ci tc), ("cuts", L + 1, .ref a), ("live", L + 1 + 1 + 1 + 1, .ref r), ("sides", L + 1 + 1, .ref d), ("turn", L + 1 + 1 + 1, .int tn tt)]) (ks' := [("name", .local)]) ["called", "cuts", "live", "sides", "turn"] rfl (by kernel_rfl) rfl (by kernel_rfl)) (by wtm_at "less") ?_ (fun _ => rfl)
    intro ZC
    wtm_at "go"
    refine l_from ?_ (fun _ _ => rfl)
    wtm_at "go"
    refine ⟨l, _, i, _, _, _, _, _, rfl, (C.tk.of (hl.mono (stays_trans hg1 hg'))).isList, by rw [Int.zero_add], by rw [List.length_map]; omega, C.tk, ?_⟩; clear C; intro s u m C
    rw [← List.map_drop] at C
    obtain ⟨g2, C, hg2, hm⟩ := C.freeze
    refine it_list C.tk (C.tk.of hm).isList ?_; clear C; intro I s u C
    have hga : g.StaysIn g2 := stays_trans hg1 (stays_trans hg' hg2)
    have hr2 : OAt g2 r (isPL (lk.map sV)) := OAt.mono hr (stays_trans hg' hg2)
    have hCb := hb1 i (Nat.le_of_lt hi)
    rw [hCi] at hCb
    refine lc_plain (Src.list fit.hh (OAt.isList hm)) (by rw [List.length_map, List.length_drop]; omega) C.tk H ZC (frs_of Z (by wtm_at "frs")) (PairsJ (keyX cu S Ci (xs.drop i)) (keyY tn pl (xs.drop i))) ⟨rfl, fun i y h => by simp at h⟩ ?_ ?_
    · clear C
      intro S' L' cenv D Q2 K2 H Y j v g3 ys s u E2 hE2 hj hv hg3 hJ C
      dsimp only [cpOf, List.map] at Y
      obtain ⟨q', hq', rfl⟩ : ∃ q', (xs.drop i)[j]? = some q' ∧ sV q' = v := by simpa using hv
      have hq2 : xs[i + j]? = some q' := by rwa [List.getElem?_drop] at hq'
      have hmem := List.mem_of_getElem? hq2
      obtain ⟨tS, hS'⟩ := hS q' hmem
      have hb2' := hb2 q' hmem
      have hb3' := hb3 i (i + j) q' (Nat.le_add_right _ _) hq2
      rw [hCi] at hb3'
      obtain ⟨t1, e1⟩ := at32_item hcu hCb.1 hCb.2
      obtain ⟨t2, e2⟩ := at32_item hcu hb2'.1 hb2'.2
      obtain ⟨t3, e3⟩ := at32_item hcu hb3'.1 hb3'.2
      wtm_at "st"
      wtm_at "tst"
      refine l_tuple ?_
      wtm_at "go"
      have ha3 : OAt g3 a (isPL (cu.map iV)) := ha.mono (stays_trans hga hg3)
      have hd3 : g3.DictOf (strKind prog w) d kvs := hd.at fun o e => hg3 _ _ (hga _ _ e)
      refine l_item (C.tk.of ha3).isList hCb.1 (by omega) e1 ?_
      wtm_at "go"
      refine d_itemS (hd3.at fun _ e => C.gh _ _ e) hS' ?_; intro m1
      wtm_at "go"
      refine l_item (C.tk.of ha3).isList hb2'.1 (by omega) e2 ?_
      wtm_at "go"
      refine d_itemS (hd3.at fun _ e => C.gh _ _ e) hS' ?_; intro m2
      wtm_at "go"
      refine l_item (C.tk.of ha3).isList hb3'.1 (by omega) e3 ?_
      wtm_at "go"
      refine m_args (T := "list") (id := "list.index") PySem.F.plainAttrs_list PySem.F.slot_list_index PySem.F.type_list_index ?_ rfl rfl rfl rfl rfl
      wtm_at "go"
      have hr3 := hr2.mono hg3
      refine ⟨(Cx.typed (C.tk.of hr3) isPL_typed).1, (Cx.typed (C.tk.of hr3) isPL_typed).2, ?_⟩
      obtain ⟨qk, hk1, hk2, hk3⟩ := idx_of hnd hlk (hpl q' hmem)
      have hkl : pl q'.1 < 5 := by
        have := (List.getElem?_eq_some_iff.mp (hpl q' hmem)).1
        rw [List.length_map] at this; omega
      wtm_at "go"
      refine c_index (C.tk.of hr3) hk1 hk2 hk3 (by omega) ?_
      refine x_mul (.inl ⟨by omega, by omega⟩) ?_
      wtm_at "go"
      refine ⟨Nat.le_of_ble_eq_true rfl, _, _, _, _, C.tk, ?_⟩; clear C; intro s u T C
      obtain ⟨g4, C, hg4, hT⟩ := C.freeze
      exact hE2.made hg4 C .here .here (hJ.snoc hg4 ⟨T, _, _, rfl, by
        rw [keyX_at hq', keyY_at hq']; exact hT⟩)
    · clear C
      intro g3 s u D ys hg3 hJ C
      obtain ⟨hlen, hys⟩ := hJ
      obtain ⟨g4, C, hg4, hD⟩ := C.freeze
      wtm_at "go"
      have hlen' : ys.length = xs.length - i := by rw [hlen, List.length_map, List.length_drop]
      refine c_max fit.hh fit.units1 C.tk (OAt.isList hD) (by omega) (keyX cu S Ci (xs.drop i)) (keyY tn pl (xs.drop i)) (fun k v h => ?_) ?_
      · obtain ⟨b, t, u, rfl, h'⟩ := hys k v h
        exact ⟨b, t, u, rfl, h'.mono hg4⟩
      clear C
      rintro m v s u hm ⟨T, t1, t2, rfl, hT⟩ hbest C
      have hq0 : (xs.drop i)[0]? = some q := by rw [List.getElem?_drop, Nat.add_zero]; exact hq
      obtain ⟨q', hq'⟩ : ∃ q', (xs.drop i)[m]? = some q' := ⟨_, List.getElem?_eq_getElem (by rw [List.length_drop]; omega)⟩
      have b1 := hbest 0 (by omega)
      have b2 := hord i (i + m) q q' (Nat.le_add_right _ _) hq (by rwa [List.getElem?_drop] at hq')
      rw [keyX_at hq0, keyY_at hq0, keyX_at hq', keyY_at hq', gtP_no] at b1
      rw [hCi, gtP_no] at b2
      have hmem := List.mem_of_getElem? hq
      obtain ⟨qk, hk1, hk2, hk3⟩ := idx_of hnd hlk (hpl q hmem)
      have hkl : pl q.1 < 5 := by
        have := (List.getElem?_eq_some_iff.mp (hpl q hmem)).1
        rw [List.length_map] at this; omega
      have heq : keyY tn pl (xs.drop i) m = tn * (pl q.1 : Nat) := by rw [keyY_at hq']; omega
      rw [heq] at hT
      wtm_at "go"
      refine tup_item (C.tk.of hT) (by decide) (by decide) rfl ?_
      wtm_at "go"
      refine m_args (T := "list") (id := "list.index") PySem.F.plainAttrs_list PySem.F.slot_list_index PySem.F.type_list_index ?_ rfl rfl rfl rfl rfl
      wtm_at "go"
      have hr4 := hr2.mono (stays_trans hg3 hg4)
      have hl4 : OAt g4 l (isPL (xs.map sV)) := hl.mono (stays_trans hga (stays_trans hg3 hg4))
      refine ⟨(Cx.typed (C.tk.of hr4) isPL_typed).1, (Cx.typed (C.tk.of hr4) isPL_typed).2, ?_⟩
      wtm_at "go"
      refine l_item (C.tk.of hl4).isList (by omega) (by omega) (map_get (a := q) (by rw [show ((0 : Int) + i).toNat = i by omega]; exact hq)) ?_
      wtm_at "go"
      refine c_index (C.tk.of hr4) hk1 hk2 hk3 (by omega) ?_
      wtm_at "go"
      refine ⟨fun h => absurd h (by simp), fun _ => ?_⟩
      wtm_at "go"
      obtain ⟨tS, hS'⟩ := hS q hmem
      refine l_item (C.tk.of hl4).isList (by omega) (by omega) (map_get (a := q) (by rw [show ((0 : Int) + i).toNat = i by omega]; exact hq)) ?_
      wtm_at "go"
      refine d_itemS (hd.at fun _ e => C.gh _ _ (hg4 _ _ (hg3 _ _ (hga _ _ e)))) hS' ?_; intro m1
      wtm_at "go"
      have hsucc : Ci + S q.1 = calledAt S (xs.map (·.1)) (i + 1) := by rw [calledAt_succ (x := q.1) (by rw [List.getElem?_map, hq]; rfl), hCi]
      rw [hsucc] at C
      have C := C.sel (mu' := [(it, isRI 0 xs.length (i + 1)), (L + 1, isCell (some (.ref a))), (L + 1 + 1, isCell (some (.ref d))), (L + 1 + 1 + 1, isCell (some (.int tn tt))), (L + 1 + 1 + 1 + 1, isCell (some (.ref r))), (L + 1 + 1 + 1 + 1 + 1, isCell (some (.int (calledAt S (xs.map (·.1)) (i + 1)) _)))]) (by wtm_at "sel")
      exact hE.next (ls' := [("line", .ref l)]) (stays_trans hg2 (stays_trans hg3 hg4)) C .here (by wtm_at "less") .mk
  · clear C
    rintro g' s u ls mu E' hg' hJ C
    cases hJ
    wtm_at "go"
    exact hQ _ _ _ (ret _ _ _ C.tk.af rfl)
end
/-- the drawn words' prices, the ties, the sums that the sides tell -/
def figs : List Int := [1, 1, 2, 2, 2]
def bitI (c : Int) (k : Nat) : Int := (c.fdiv (2 ^ k)).fmod 2
def priceT (c d : Int) (k : Nat) : Int := (c.fdiv (2 ^ k) + d.fdiv (2 ^ k)).fmod 2 * figs.getD k 0
def priceI (c d : Int) : Int := ((List.range 5).map (priceT c d)).sum
def reachI (cs : List Int) : Int := ((cs.getD 15 0).fdiv 2).fmod 4 + 3
def tieI (cs : List Int) (i j : Nat) : Int :=
  if priceI (cs.getD i 0) (cs.getD j 0) < reachI cs then (if cs.getD (place i j).toNat 0 < 0 then -(cs.getD (place i j).toNat 0) else cs.getD (place i j).toNat 0) * (reachI cs + 1 - priceI (cs.getD i 0) (cs.getD j 0)) else 0
def innr (T : Nat → Nat → Int) (i side : Nat) : Nat → Int
  | 0 => 0
  | j + 1 => innr T i side j + if bitI side i ≠ bitI side j then T i j else 0
def outr (T : Nat → Nat → Int) (side : Nat) : Nat → Int
  | 0 => 0
  | i + 1 => outr T side i + innr T i side i
theorem place_in : ∀ i < 5, ∀ j < i, 5 ≤ place (i : Nat) (j : Nat) ∧ place (i : Nat) (j : Nat) < 15 := by decide +kernel
theorem priceT_in (c d : Int) (k : Nat) : 0 ≤ priceT c d k ∧ priceT c d k ≤ 2 := by
  unfold priceT
  obtain ⟨h1, h2⟩ := mod2 (c.fdiv (2 ^ k) + d.fdiv (2 ^ k))
  generalize (c.fdiv (2 ^ k) + d.fdiv (2 ^ k)).fmod 2 = x at *
  have h3 : 0 ≤ figs.getD k 0 ∧ figs.getD k 0 ≤ 2 := by
    match k with
    | 0 | 1 | 2 | 3 | 4 => decide
    | k + 5 => simp [figs]
  generalize figs.getD k 0 = y at *
  have : x = 0 ∨ x = 1 := by omega
  rcases this with rfl | rfl <;> omega
theorem priceI_in (c d : Int) : 0 ≤ priceI c d ∧ priceI c d ≤ 10 := by
  have h := fun k => priceT_in c d k
  have h0 := h 0; have h1 := h 1; have h2 := h 2; have h3 := h 3; have h4 := h 4
  have : priceI c d = priceT c d 0 + (priceT c d 1 + (priceT c d 2 + (priceT c d 3 + (priceT c d 4 + 0)))) := rfl
  omega
theorem reachI_in (cs : List Int) : 3 ≤ reachI cs ∧ reachI cs ≤ 6 := by
  unfold reachI
  have h1 : 0 ≤ ((cs.getD 15 0).fdiv 2).fmod 4 := Int.fmod_nonneg_of_pos _ (by decide)
  have h2 : ((cs.getD 15 0).fdiv 2).fmod 4 < 4 := Int.fmod_lt_of_pos _ (by decide)
  omega
theorem pow5 {k : Nat} (h : k < 5) : (0 : Int) < 2 ^ k ∧ (2 : Int) ^ k < 1000 := by
  match k, h with
  | 0, _ | 1, _ | 2, _ | 3, _ | 4, _ => decide
section
variable {prog : Program} {w : World} {A : Around} {E : Value → Shared → Prop} {p : Par} {g : Heap} {s : Shared} {ls : List Loc} {mu : List Own} {l b : Addr} {vs ws : List Value} {Q : Value → Shared → Prop}
/-- a + b of two lists (whatever stands beside their items) -/
theorem l_addW (hl : s.heap.IsList l vs.toArray) (hb : s.heap.IsList b ws.toArray) (C : Cx p g s ls mu) (hn : vs.length + ws.length ≤ 1000) (h : ∀ s' u' a, Cx p g s' ls ((a, isPL (vs ++ ws)) :: mu) → Q (.ref a) (tk s' u')) :
    WP (model prog w) A (binaryOp .Add (.ref l) (.ref b)) Q E s := by
  have h := un2 h
  obtain ⟨⟨cls, dd, data, sl⟩, ho, hc, n, hd⟩ := hl
  obtain ⟨⟨cls2, dd2, data2, sl2⟩, ho2, hc2, n2, hd2⟩ := hb
  simp only at hc hd hc2 hd2
  subst hc hd hc2 hd2
  constructor
  refine concat_meets ⟨_, ho, rfl⟩ ⟨_, ho2, rfl⟩ noFill_list_add seq_list_add PySem.F.slot_list_add PySem.F.entry_list_add (PySem.F.args_list_add_2 _ _) (list_addW l b vs.toArray ws.toArray n n2 dd dd2 sl sl2 (by simpa using fits _ hn)) ⟨ho, ho2, ?_⟩
  exact h _ _ (C.alloc (t := s.toks) ⟨0, by simp⟩ rfl)
end
theorem at_set {F G : Nat → Int} {ys : List (Int × Tok)} {m : Nat} {v : Int} {t : Tok} (h : ys.map Prod.fst = (List.range 16).map F) (hv : v = G m) (hG : ∀ k < 16, k ≠ m → F k = G k) : (ys.set m (v, t)).map Prod.fst = (List.range 16).map G := by
  have hl : ys.length = 16 := by simpa using congrArg List.length h
  refine List.ext_getElem (by simp [hl]) fun k h1 h2 => ?_
  have hk : k < 16 := by simpa using h2
  have e : ys[k].1 = F k := by
    have := congrArg (fun l => l[k]?) h
    simpa [hk, hl] using this
  simp only [List.getElem_map, List.getElem_range, List.getElem_set]
  split
  · rename_i e'
    subst e'; exact hv
  · rename_i e'
    rw [e]; exact hG k hk (Ne.symm e')
theorem at_keep {F G : Nat → Int} {l : List Int} (h : l = (List.range 16).map F) (hG : ∀ k < 16, F k = G k) : l = (List.range 16).map G := by
  rw [h]; exact List.map_congr_left fun k hk => hG k (List.mem_range.mp hk)
theorem at_item {F : Nat → Int} {ys : List (Int × Tok)} {m : Nat} (h : ys.map Prod.fst = (List.range 16).map F) (hm : m < 16) : ∃ t, (ys.map iV)[m]? = some (.int (F m) t) := by
  have hl : ys.length = 16 := by simpa using congrArg List.length h
  have h2 : m < ys.length := by omega
  refine ⟨ys[m].2, ?_⟩
  rw [map_get (List.getElem?_eq_getElem h2)]
  have := congrArg (fun l => l[m]?) h
  have : ys[m].1 = F m := by simpa [hm, hl] using this
  rw [← this]
theorem setI (ys : List (Int × Tok)) (k : Nat) (v : Int) (t : Tok) : (ys.map iV).set k (.int v t) = (ys.set k (v, t)).map iV := by rw [List.map_set]
/-- the part of a turn's tie in the sums -/
def partS (T : Int) (i j m side : Nat) : Int := if side < m then (if bitI side i ≠ bitI side j then T else 0) else 0
theorem figs_at {k : Nat} (h : k < 5) (t₁ t₂ t₃ t₄ t₅ : Tok) : ∃ t, [Value.int 1 t₁, .int 1 t₂, .int 2 t₃, .int 2 t₄, .int 2 t₅][(k : Int).toNat]? = some (.int (figs.getD k 0) t) := by
  match k, h with
  | 0, _ | 1, _ | 2, _ | 3, _ | 4, _ => exact ⟨_, rfl⟩
theorem cut_int {prog : Program} {w : World} {A : Around} {E : Value → Shared → Prop} {p : Par} {g : Heap} {s : Shared} {ls : List Loc} {mu : List Own} {Q : Value → Shared → Prop} {t : Sem Value} {n : Nat} (_ : Cx p g s ls mu) (k : Int)
    (h2 : ∀ s' u' t g', g.StaysIn g' → Cx p g' s' ls mu → Q (.int k t) (tk s' u')) (h1 : ∀ R, (∀ s' u' t g', g.StaysIn g' → Cx p g' s' ls mu → R (.int k t) (tk s' u')) → WP (model prog w) A t R E (tk s n)) : WP (model prog w) A t Q E (tk s n) := h1 Q h2
theorem zeros_own {p : Par} {g : Heap} {s : Shared} {ls : List Loc} {mu : List Own} {c : Addr} {t : Tok} (C : Cx p g s ls ((c, isPL (List.replicate (Int.toNat 16) [Value.int 0 t]).flatten) :: mu)) : Cx p g s ls ((c, isL ((List.replicate 16 ((0 : Int), t)).map iV)) :: mu) :=
  C.conv fun o ⟨n, e⟩ => e ▸ ⟨rfl, n, rfl⟩
inductive CutsJ (L a c : Addr) (rk : Int) (ex : List Loc) (em : List Own) (IV JV : Option Value → Prop) (F : Nat → Nat → Int) : Nat → Heap → List Loc → List Own → Prop
  | mk {i : Nat} {g : Heap} {tr : Tok} {ys : List (Int × Tok)} {iv jv : Option Value} : IV iv → JV jv → ys.map Prod.fst = (List.range 16).map (F i) →
      CutsJ L a c rk ex em IV JV F i g (("cuts", .ref c) :: ("reach", .int rk tr) :: ex) ((L + 1, isCell (some (.ref a))) :: (L + 1 + 1, isCell iv) :: (L + 1 + 1 + 1, isCell jv) :: (c, isL (ys.map iV)) :: em)
section
variable {prog : Program} {w : World} {g : Heap} {a : Addr} {cs : List (Int × Tok)}
set_option maxHeartbeats 0 in
theorem cuts_ct (B : Base (KK w) g) (ha : OAt g a (isL (cs.map iV))) (hcs : cs.length = 16) :
    Ct prog w 2 g (.ref 160) [.ref a] (fun g' v => ∃ (r : Addr) (cu : List (Int × Tok)), v = .ref r ∧ OAt g' r (isPL (cu.map iV)) ∧ cu.map Prod.fst = (List.range 16).map (fun side => outr (tieI (cs.map Prod.fst)) side 5) ++ ((List.range 16).map (fun side => outr (tieI (cs.map Prod.fst)) side 5)).reverse) := by
  intro A s Q E fit hg ret
  refine enterC (binds := [("cells", .ref a)]) (bl := []) (cs := [("cells", some (.ref a)), ("i", none), ("j", none)])
    (ks := [("reach", .local), ("cuts", .local), ("price", .local), ("tie", .local), ("side", .local), ("range", .globalImplicit), ("sum", .globalImplicit), ("abs", .globalImplicit), ("_law_place", .globalImplicit)]) fit B hg rfl (by kernel_rfl) rfl (by kernel_rfl) (by kernel_rfl) (by kernel_rfl) (by kernel_rfl) (by kernel_rfl) (by kernel_rfl) (by kernel_rfl) rfl rfl rfl ?_
  intro A' env L s u QQ EE hQ _ fit H Z C
  dsimp only [cellAdr, cellOwn] at Z C
  have item : ∀ (k : Nat), k < 16 → ∃ t, (cs.map iV)[k]? = some (.int ((cs.map Prod.fst).getD k 0) t) := fun k hk => by
    have h2 : k < cs.length := by omega
    exact ⟨cs[k].2, by rw [map_get (List.getElem?_eq_getElem h2)]; simp [h2]⟩
  obtain ⟨t15, e15⟩ := item 15 (by decide)
  generalize hD : cs.map Prod.fst = D at *
  wtm_at "go"
  refine l_item (show s.heap.IsList a _ from ha.mono C.gh) (by decide) (by decide) e15 ?_
  wtm_at "go"
  refine l_list ?_
  wtm_at "go"
  refine ⟨Nat.le_of_ble_eq_true rfl, _, _, _, _, C.tk, ?_⟩; clear C; intro s u z C
  wtm_at "go"
  refine l_mul C.tk (C.my (.head _)) (by decide) (by decide) (Nat.le_of_ble_eq_true rfl) ?_; clear C; intro s u c C
  replace C := zeros_own C
  wtm_at "go"
  refine c_range C.tk ?_; clear C; intro s u r C
  wtm_at "go"
  refine it_range C.tk (by decide) ?_; clear C; intro it s u C
  rw [show ((D.getD 15 0).fdiv 2).fmod 4 + 3 = reachI D from rfl] at C
  have hR := reachI_in D
  replace C := C.sel (mu' := [(it, isRI 0 (5 : Nat) 0), (L + 1, isCell (some (.ref a))), (L + 1 + 1, isCell none), (L + 1 + 1 + 1, isCell none), (c, isL ((List.replicate 16 ((0 : Int), (_ : Tok))).map iV))]) (by wtm_at "sel")
  refine for_loopQ (CutsJ L a c (reachI D) [] [] (fun _ => True) (fun _ => True) fun i side => outr (tieI D) side i) (Src.range fit.hh 0 5) C.tk (.mk trivial trivial rfl) ht_name ?_ ?_
  · clear C
    rintro i v g' s u ls mu E' Q1 hE hi ⟨ti, rfl⟩ hg' hJ C
    cases hJ
    rename_i tr ys iv jv _ _ hys
    rw [Int.zero_add]
    refine a_name ?_
    wtm_at "go"
    refine c_range C.tk ?_; clear C; intro s u r' C
    wtm_at "go"
    refine it_range C.tk (by omega) ?_; clear C; intro jt s u C
    replace C := C.sel (mu' := [(jt, isRI 0 (i : Nat) 0), (L + 1, isCell (some (.ref a))), (L + 1 + 1, isCell (some (.int (i : Nat) ti))), (L + 1 + 1 + 1, isCell jv), (c, isL (ys.map iV)), (it, isRI 0 (5 : Nat) (i + 1))]) (by wtm_at "sel")
    refine for_loopQ (CutsJ L a c (reachI D) [] [(it, isRI 0 (5 : Nat) (i + 1))] (fun v => v = some (.int (i : Nat) ti)) (fun _ => True) fun j side => outr (tieI D) side i + innr (tieI D) i side j) (Src.range fit.hh 0 i) C.tk
      (.mk rfl trivial (at_keep hys fun k _ => (Int.add_zero _).symm)) ht_name ?_ ?_
    · clear C
      rintro j v g2 s u ls mu E2 Q2 hE2 hj ⟨tj, rfl⟩ hg2 hJ C
      cases hJ
      rename_i tr ys iv jv hiv _ hys
      obtain rfl : iv = _ := hiv
      rw [Int.zero_add]
      refine a_name ?_
      wtm_at "go"
      obtain ⟨ei, hei⟩ := item i (by omega)
      obtain ⟨ej, hej⟩ := item j (by omega)
      refine e_lc Z (CompScope.of (fr := [("cells", L + 1, .ref a), ("i", L + 1 + 1, .int (i : Nat) ti), ("j", L + 1 + 1 + 1, .int (j : Nat) tj)]) (ks' := [("k", .local)]) ["cells", "i", "j"] rfl (by kernel_rfl) rfl (by kernel_rfl)) (by wtm_at "less") ?_ (fun _ => rfl)
      intro ZC
      wtm_at "go"
      refine c_range C.tk ?_; clear C; intro s u r'' C
      wtm_at "go"
      refine it_range C.tk (by decide) ?_; clear C; intro kt s u C
      refine lc_plain (Src.range fit.hh 0 5) (by decide) C.tk H ZC (frs_of Z (by wtm_at "frs")) (MapJ (priceT (D.getD i 0) (D.getD j 0))) .nil ?_ ?_
      · clear C
        intro S' L' cenv D' Q3 K3 H Y k v g3 zs s u E3 hE3 hk hv hg3 hJ C
        dsimp only [cpOf, List.map] at Y
        obtain ⟨tk3, rfl⟩ := hv
        rw [Int.zero_add]
        have hp5 := pow5 hk
        have hm2 := mod2 ((D.getD i 0).fdiv (2 ^ k) + (D.getD j 0).fdiv (2 ^ k))
        have hga : g3.StaysIn g3 := stays_refl _
        have ha3 : OAt g3 a (isL (cs.map iV)) := ha.mono (stays_trans hg' (stays_trans hg2 hg3))
        wtm_at "st"
        wtm_at "tst"
        wtm_at "go"
        refine l_item (show s.heap.IsList a _ from ha3.mono C.gh) (by omega) (by omega) hei ?_
        wtm_at "go"
        rw [Int.toNat_natCast]
        refine x_fdiv hp5.1 hp5.2 ?_
        wtm_at "go"
        refine l_item (show s.heap.IsList a _ from ha3.mono C.gh) (by omega) (by omega) hej ?_
        wtm_at "go"
        rw [Int.toNat_natCast]
        refine x_fdiv hp5.1 hp5.2 ?_
        wtm_at "go"
        refine l_list ?_
        wtm_at "go"
        refine ⟨Nat.le_of_ble_eq_true rfl, _, _, _, _, C.tk, ?_⟩; clear C; intro s u fg C
        wtm_at "go"
        obtain ⟨tf, hf⟩ := figs_at (k := k) hk _ _ _ _ _
        refine l_item (OAt.isList (C.my (.head _))) (by omega) (by omega) hf ?_
        refine x_mul (.inl ⟨by omega, by omega⟩) ?_
        exact hE3.made (stays_refl _) C (.there .here) (.there .here) (hJ.snoc rfl)
      · clear C
        rintro g3 s u D' _ hg3 ⟨hzs⟩ C
        rename_i zs
        wtm_at "go"
        refine c_sum fit.hh C.tk (C.my (.head _)) ?_; clear C; intro s u tp C
        rw [hzs, show ((List.range 5).map (priceT (D.getD i 0) (D.getD j 0))).sum = priceI (D.getD i 0) (D.getD j 0) from rfl]
        wtm_at "st"
        refine k_asg ?_ rfl
        refine cut_int C.tk (tieI D i j) ?_ ?_
        · clear C
          intro s u tt g4 hg4 C
          wtm_at "go"
          refine c_range C.tk ?_; clear C; intro s u rs C
          wtm_at "go"
          refine it_range C.tk (by decide) ?_; clear C; intro st s u C
          replace C := C.sel (mu' := [(st, isRI 0 (16 : Nat) 0), (L + 1, isCell (some (.ref a))), (L + 1 + 1, isCell (some (.int (i : Nat) ti))), (L + 1 + 1 + 1, isCell (some (.int (j : Nat) tj))), (c, isL (ys.map iV)), (jt, isRI 0 (i : Nat) (j + 1)), (it, isRI 0 (5 : Nat) (i + 1))]) (by wtm_at "sel")
          refine for_loopQ (CutsJ L a c (reachI D) [("tie", .int (tieI D i j) tt)] [(jt, isRI 0 (i : Nat) (j + 1)), (it, isRI 0 (5 : Nat) (i + 1))] (fun v => v = some (.int (i : Nat) ti)) (fun v => v = some (.int (j : Nat) tj)) fun m side => outr (tieI D) side i + innr (tieI D) i side j + partS (tieI D i j) i j m side) (Src.range fit.hh 0 16)
            (C.tk.less (ls' := [("cuts", .ref c), ("reach", .int (reachI D) tr), ("tie", .int (tieI D i j) tt)]) (by wtm_at "less")) (.mk rfl rfl (at_keep hys fun k _ => (Int.add_zero _).symm)) ht_name ?_ ?_
          · clear C
            rintro m v g5 s u ls mu E3 Q3 hE3 hm ⟨tm, rfl⟩ hg5 hJ C
            cases hJ
            rename_i tr ys iv jv hiv hjv hys
            obtain rfl : iv = _ := hiv
            obtain rfl : jv = _ := hjv
            rw [Int.zero_add]
            have hpi := pow5 hi
            have hpj := pow5 (Nat.lt_trans hj hi)
            refine a_name ?_
            wtm_at "go"
            rw [Int.toNat_natCast]
            refine x_fdiv hpi.1 hpi.2 ?_
            wtm_at "go"
            rw [Int.toNat_natCast]
            refine x_fdiv hpj.1 hpj.2 ?_
            wtm_at "go"
            refine ⟨fun hb => ?_, fun hb => ?_⟩
            · have hne : bitI m i ≠ bitI m j := by simpa [bitI] using hb
              wtm_at "go"
              obtain ⟨tv, hv⟩ := at_item hys hm
              have hL : s.heap.IsList c (ys.map iV).toArray := C.my (by wtm_at "mem")
              refine l_item hL (by omega) (by omega) hv ?_
              wtm_at "go"
              have hl : ys.length = 16 := by simpa using congrArg List.length hys
              refine l_set C.tk (by wtm_at "pick") (by omega) (by rw [List.length_map]; omega) (by omega) ?_; clear C; intro s u C
              rw [Int.toNat_natCast, setI] at C
              wtm_at "go"
              refine hE3.next (ls' := [("cuts", .ref c), ("reach", .int (reachI D) tr), ("tie", .int (tieI D i j) tt)]) (stays_refl _) (C.sel (mu' := [(st, isRI 0 (16 : Nat) (m + 1)), (L + 1, isCell (some (.ref a))), (L + 1 + 1, isCell (some (.int (i : Nat) ti))), (L + 1 + 1 + 1, isCell (some (.int (j : Nat) tj))), (c, isL ((ys.set m (_, _)).map iV)), (jt, isRI 0 (i : Nat) (j + 1)), (it, isRI 0 (5 : Nat) (i + 1))]) (by wtm_at "sel")) .here (by wtm_at "less") ?_
              refine .mk rfl rfl (at_set hys ?_ fun k hk hkm => ?_)
              · unfold partS
                rw [if_neg (Nat.lt_irrefl m), if_pos (Nat.lt_succ_self m), if_pos hne, Int.add_zero]
              · unfold partS
                by_cases h : k < m
                · rw [if_pos h, if_pos (Nat.lt_succ_of_lt h)]
                · rw [if_neg h, if_neg (by omega)]
            · have hne : ¬ bitI m i ≠ bitI m j := by simpa [bitI] using hb
              wtm_at "go"
              refine hE3.next (ls' := [("cuts", .ref c), ("reach", .int (reachI D) tr), ("tie", .int (tieI D i j) tt)]) (stays_refl _) (C.sel (mu' := [(st, isRI 0 (16 : Nat) (m + 1)), (L + 1, isCell (some (.ref a))), (L + 1 + 1, isCell (some (.int (i : Nat) ti))), (L + 1 + 1 + 1, isCell (some (.int (j : Nat) tj))), (c, isL (ys.map iV)), (jt, isRI 0 (i : Nat) (j + 1)), (it, isRI 0 (5 : Nat) (i + 1))]) (by wtm_at "sel")) .here (by wtm_at "less") ?_
              refine .mk rfl rfl (at_keep hys fun k hk => ?_)
              unfold partS
              by_cases h : k < m
              · rw [if_pos h, if_pos (Nat.lt_succ_of_lt h)]
              · rw [if_neg h]
                by_cases h' : k < m + 1
                · obtain rfl : k = m := by omega
                  rw [if_pos h', if_neg hne]
                · rw [if_neg h']
          · clear C
            rintro g5 s u ls mu E3 hg5 hJ C
            cases hJ
            rename_i tr ys iv jv hiv hjv hys
            obtain rfl : iv = _ := hiv
            obtain rfl : jv = _ := hjv
            wtm_at "go"
            refine hE2.next (ls' := [("cuts", .ref c), ("reach", .int (reachI D) tr)]) (stays_trans hg3 (stays_trans hg4 hg5)) (C.sel (mu' := [(jt, isRI 0 (i : Nat) (j + 1)), (L + 1, isCell (some (.ref a))), (L + 1 + 1, isCell (some (.int (i : Nat) ti))), (L + 1 + 1 + 1, isCell (some (.int (j : Nat) tj))), (c, isL (ys.map iV)), (it, isRI 0 (5 : Nat) (i + 1))]) (by wtm_at "sel")) .here (by wtm_at "less") (.mk rfl trivial (at_keep hys fun k hk => ?_))
            unfold partS
            rw [if_pos hk, Int.add_assoc]; rfl
        · intro R hRR
          have hp := priceI_in (D.getD i 0) (D.getD j 0)
          wtm_at "go"
          refine ⟨fun hb => ?_, fun hb => ?_⟩
          · have hb := of_decide_eq_true hb
            have eT : tieI D i j = _ := if_pos hb
            wtm_at "go"
            refine (place_ct (B.mono C.af.gg) ⟨by omega, by omega⟩ ⟨by omega, by omega⟩).use fit (Nat.le_refl _) C.tk ?_; clear C
            rintro _ g4 s u C hg4 ⟨tpl, rfl⟩
            have hpl := place_in i hi j hj
            obtain ⟨tc, hc⟩ := item (place i j).toNat (by omega)
            refine l_item (show s.heap.IsList a _ from OAt.mono ha (stays_trans hg' (stays_trans hg2 (stays_trans hg3 (stays_trans hg4 C.gh))))) (by omega) (by omega) hc ?_
            wtm_at "go"
            refine c_abs C.tk ?_; clear C; intro s u ta C
            wtm_at "go"
            rw [← eT]
            exact hRR _ _ _ _ hg4 C.tk
          · have hb := of_decide_eq_false hb
            have eT : tieI D i j = 0 := if_neg hb
            wtm_at "go"
            rw [← eT]
            exact hRR _ _ _ _ (stays_refl _) C.tk
    · clear C
      rintro g2 s u ls mu E2 hg2 hJ C
      cases hJ
      rename_i tr ys iv jv hiv _ hys
      obtain rfl : iv = _ := hiv
      wtm_at "go"
      replace C := C.sel (mu' := [(it, isRI 0 (5 : Nat) (i + 1)), (L + 1, isCell (some (.ref a))), (L + 1 + 1, isCell (some (.int (i : Nat) ti))), (L + 1 + 1 + 1, isCell jv), (c, isL (ys.map iV))]) (by wtm_at "sel")
      exact hE.next (ls' := [("cuts", .ref c), ("reach", .int (reachI D) tr)]) hg2 C .here (by wtm_at "less") (.mk trivial trivial hys)
  · clear C
    rintro g2 s u ls mu E2 hg2 hJ C
    cases hJ
    rename_i tr ys iv jv _ _ hys
    wtm_at "go"
    refine l_rev ?_ (fun _ _ => rfl)
    wtm_at "go"
    have hl : ys.length = 16 := by simpa using congrArg List.length hys
    refine ⟨c, _, _, _, _, _, _, rfl, C.my (by wtm_at "mem"), rfl, by rw [List.length_map]; omega, C.tk, ?_⟩; clear C; intro s u rv C
    have h1 : s.heap.IsList c (ys.map iV).toArray := C.my (by wtm_at "mem")
    refine l_addW h1 (OAt.isList (C.my (.head _))) C.tk (by simp only [List.length_reverse, List.length_map]; omega) ?_; clear C; intro s u res C
    obtain ⟨g4, C, hg4, hO⟩ := C.freeze
    rw [← List.map_reverse, ← List.map_append] at hO
    exact hQ _ _ _ (ret _ _ _ C.tk.af ⟨res, _, rfl, hO, by rw [List.map_append, List.map_reverse, hys]⟩)
end
/-- a word of five figures -/
def wl (n : Nat) : List Nat := (cond (Nat.beq (n / 8 % 2) 1) [110] []) ++ [cond (Nat.beq (n % 2) 1) 75 107, cond (Nat.beq (n / 2 % 2) 1) 76 108, cond (Nat.beq (n / 4 % 2) 1) 120 109] ++ (cond (Nat.beq (n / 16 % 2) 1) [110] [])
def df (a b k : Nat) : Nat := (a / 2 ^ k + b / 2 ^ k) % 2
def priceN (a b : Nat) : Nat := df a b 0 + df a b 1 + df a b 2 * 2 + df a b 3 * 2 + df a b 4 * 2
def okP (r a b : Nat) : Bool := cond (Nat.blt (priceN a b) r) (Nat.beq (lev (wl a) (wl b) (r - 1)) (priceN a b)) (Nat.ble r (lev (wl a) (wl b) (r - 1)))
def okR (r : Nat) : Bool := (List.range 32).all fun a => (List.range 32).all fun b => okP r a b
set_option maxHeartbeats 0
theorem ok3 : okR 3 = true := by decide +kernel
theorem ok4 : okR 4 = true := by decide +kernel
theorem ok5 : okR 5 = true := by decide +kernel
theorem ok6 : okR 6 = true := by decide +kernel
theorem okRs {r a b : Nat} (h3 : 3 ≤ r) (h6 : r ≤ 6) (ha : a < 32) (hb : b < 32) : (priceN a b < r → lev (wl a) (wl b) (r - 1) = priceN a b) ∧ (¬ priceN a b < r → r ≤ lev (wl a) (wl b) (r - 1)) := by
  have h : okR r = true := by
    have : r = 3 ∨ r = 4 ∨ r = 5 ∨ r = 6 := by omega
    rcases this with rfl | rfl | rfl | rfl
    · exact ok3
    · exact ok4
    · exact ok5
    · exact ok6
  have h := List.all_eq_true.mp (List.all_eq_true.mp h a (List.mem_range.mpr ha)) b (List.mem_range.mpr hb)
  unfold okP at h
  cases e : Nat.blt (priceN a b) r with
  | true =>
    rw [e] at h
    exact ⟨fun _ => Nat.eq_of_beq_eq_true h, fun h' => absurd (Nat.le_of_ble_eq_true e) h'⟩
  | false =>
    rw [e] at h
    exact ⟨fun h' => absurd (Nat.ble_eq_true_of_le h') (by rw [show Nat.ble (priceN a b).succ r = Nat.blt (priceN a b) r from rfl, e]; exact Bool.false_ne_true), fun _ => Nat.le_of_ble_eq_true h⟩
/-- a cell's lowest five figures -/
def cm (c : Int) : Nat := (c % 32).toNat
theorem cm_lt (c : Int) : cm c < 32 := by unfold cm; omega
theorem cm_bit (c : Int) : ∃ q : Int, c = 32 * q + (cm c : Int) := ⟨c / 32, by unfold cm; omega⟩
theorem fd (a : Int) (b : Nat) (h : 0 < b) : a.fdiv b = a / b := Int.fdiv_eq_ediv_of_nonneg a (by omega)
theorem fm (a : Int) (b : Nat) : a.fmod b = a % b := Int.fmod_eq_emod_of_nonneg a (by omega)
theorem bitc (c : Int) (k : Nat) (h : k < 5) : (c.fdiv (2 ^ k)).fmod 2 = ((cm c / 2 ^ k % 2 : Nat) : Int) := by
  obtain ⟨q, hq⟩ := cm_bit c
  have := cm_lt c
  generalize cm c = n at *
  subst hq
  match k, h with
  | 0, _ => rw [show ((2 : Int) ^ 0) = (1 : Nat) from rfl, show ((2 : Nat) ^ 0) = 1 from rfl, fd _ _ (by decide), show (2 : Int) = (2 : Nat) from rfl, fm]; omega
  | 1, _ => rw [show ((2 : Int) ^ 1) = (2 : Nat) from rfl, show ((2 : Nat) ^ 1) = 2 from rfl, fd _ _ (by decide), show (2 : Int) = (2 : Nat) from rfl, fm]; omega
  | 2, _ => rw [show ((2 : Int) ^ 2) = (4 : Nat) from rfl, show ((2 : Nat) ^ 2) = 4 from rfl, fd _ _ (by decide), show (2 : Int) = (2 : Nat) from rfl, fm]; omega
  | 3, _ => rw [show ((2 : Int) ^ 3) = (8 : Nat) from rfl, show ((2 : Nat) ^ 3) = 8 from rfl, fd _ _ (by decide), show (2 : Int) = (2 : Nat) from rfl, fm]; omega
  | 4, _ => rw [show ((2 : Int) ^ 4) = (16 : Nat) from rfl, show ((2 : Nat) ^ 4) = 16 from rfl, fd _ _ (by decide), show (2 : Int) = (2 : Nat) from rfl, fm]; omega
theorem fadd (a b : Int) : (a + b).fmod 2 = (a.fmod 2 + b.fmod 2).fmod 2 := by
  rw [show (2 : Int) = (2 : Nat) from rfl, fm, fm, fm, fm]; omega
theorem priceT_df (c d : Int) (k : Nat) (h : k < 5) : (c.fdiv (2 ^ k) + d.fdiv (2 ^ k)).fmod 2 = ((df (cm c) (cm d) k : Nat) : Int) := by
  rw [fadd, bitc c k h, bitc d k h, show (2 : Int) = (2 : Nat) from rfl, fm]
  unfold df
  omega
theorem price_N (c d : Int) : priceI c d = (priceN (cm c) (cm d) : Nat) := by
  have e : priceI c d = priceT c d 0 + (priceT c d 1 + (priceT c d 2 + (priceT c d 3 + (priceT c d 4 + 0)))) := rfl
  rw [e]
  unfold priceT
  rw [priceT_df c d 0 (by decide), priceT_df c d 1 (by decide), priceT_df c d 2 (by decide), priceT_df c d 3 (by decide), priceT_df c d 4 (by decide)]
  show _ * (1 : Int) + (_ * (1 : Int) + (_ * (2 : Int) + (_ * (2 : Int) + (_ * (2 : Int) + 0)))) = _
  unfold priceN
  omega
theorem word32 : ∀ n < 32, word ((n : Nat) : Int) = sv (wl n) := by decide +kernel
theorem word_mod (c : Int) : word c = word ((cm c : Nat) : Int) := by
  have hb : ∀ k < 5, (c.fdiv (2 ^ k)).fmod 2 = (((cm c : Nat) : Int).fdiv (2 ^ k)).fmod 2 := fun k h => by
    rw [bitc c k h, bitc _ k h]
    have : cm ((cm c : Nat) : Int) = cm c := by unfold cm; omega
    rw [this]
  have h0 := hb 0 (by decide)
  rw [Int.pow_zero, Int.fdiv_one, Int.fdiv_one] at h0
  have h1 : (c.fdiv 2).fmod 2 = (((cm c : Nat) : Int).fdiv 2).fmod 2 := hb 1 (by decide)
  have h2 : (c.fdiv 4).fmod 2 = (((cm c : Nat) : Int).fdiv 4).fmod 2 := hb 2 (by decide)
  have h3 : (c.fdiv 8).fmod 2 = (((cm c : Nat) : Int).fdiv 8).fmod 2 := hb 3 (by decide)
  have h4 : (c.fdiv 16).fmod 2 = (((cm c : Nat) : Int).fdiv 16).fmod 2 := hb 4 (by decide)
  unfold word
  rw [h0, h1, h2, h3, h4]
theorem word_wl (c : Int) : word c = sv (wl (cm c)) := by rw [word_mod, word32 _ (cm_lt c)]
theorem wl_ok : ∀ n < 32, (wl n).length ≤ 20 ∧ ∀ x ∈ wl n, okc x := by decide +kernel
theorem lev_price (c d : Int) {r : Nat} (h3 : 3 ≤ r) (h6 : r ≤ 6) : (priceI c d < r → (lev (wl (cm c)) (wl (cm d)) (r - 1) : Int) = priceI c d) ∧ (¬ priceI c d < r → ¬ (lev (wl (cm c)) (wl (cm d)) (r - 1) : Int) < r) := by
  have := okRs h3 h6 (cm_lt c) (cm_lt d)
  rw [price_N]
  omega
def nm (j : Nat) : Str := ⟨#[97 + j]⟩
theorem nm_inj {i j : Nat} (h : nm i = nm j) : i = j := by
  have : (97 + i : Nat) = 97 + j := by simpa [nm] using h
  omega
theorem abc_item {j : Nat} (h : j < 5) : ("abcde" : Str).cps[((j : Nat) : Int).toNat]? = some (97 + j) := by
  match j, h with
  | 0, _ | 1, _ | 2, _ | 3, _ | 4, _ => decide +kernel
section
variable {prog : Program} {w : World} {A : Around} {E : Value → Shared → Prop} {s : Shared} {Q : Value → Shared → Prop} {b c : Bool}
theorem c_isb (h : Q (.bool (b == c)) s) : WP (model prog w) A (compareOp .Is (.bool b) (.bool c)) Q E s := by
  constructor
  show wpAny _ _ (do return Value.bool (← isSame (.bool b) (.bool c))) _ _ _
  have e : (Value.bool b == Value.bool c) = (b == c) := by cases b <;> cases c <;> rfl
  rw [← e] at h
  exact wpAny_bind (wpAny_pure (wpAny_pure h))
theorem c_isnb (h : Q (.bool (!(b == c))) s) : WP (model prog w) A (compareOp .IsNot (.bool b) (.bool c)) Q E s := by
  constructor
  show wpAny _ _ (do return Value.bool (!(← isSame (.bool b) (.bool c)))) _ _ _
  have e : (Value.bool b == Value.bool c) = (b == c) := by cases b <;> cases c <;> rfl
  rw [← e] at h
  exact wpAny_bind (wpAny_pure (wpAny_pure h))
end
/-- a name's row: its ties to the other names, in their order -/
def rowOf (W : Str → Str → Int) (names : List Str) (x : Str) : List (Str × Int) := (names.filter (· ≠ x)).map fun y => (y, W x y)
def IsRow (prog : Program) (w : World) (h : Heap) (row : List (Str × Int)) (v : Value) : Prop := ∃ r kws, v = .ref r ∧ (r == sysModules) = false ∧ h.DictOf (strKind prog w) r kws ∧ AllI kws ∧ numD kws = row
def RowsOf (prog : Program) (w : World) (h : Heap) (W : Str → Str → Int) (names : List Str) (l : List Str) (kvs : List (Str × Value)) : Prop := kvs.map (·.1) = l ∧ ∀ q ∈ kvs, IsRow prog w h (rowOf W names q.1) q.2
def RowsAt (prog : Program) (w : World) (h : Heap) (d : Addr) (names : List Str) (W : Str → Str → Int) : Prop := (d == sysModules) = false ∧ ∃ kvs, h.DictOf (strKind prog w) d kvs ∧ RowsOf prog w h W names names kvs
section
variable {prog : Program} {w : World} {h h' : Heap}
theorem IsRow.mono {row : List (Str × Int)} {v : Value} (x : IsRow prog w h row v) (k : h.StaysIn h') : IsRow prog w h' row v := by
  obtain ⟨r, kws, a, b, c, d⟩ := x; exact ⟨r, kws, a, b, c.at (k _), d⟩
theorem RowsOf.mono {W : Str → Str → Int} {names l : List Str} {kvs : List (Str × Value)} (x : RowsOf prog w h W names l kvs) (k : h.StaysIn h') : RowsOf prog w h' W names l kvs := ⟨x.1, fun q hq => (x.2 q hq).mono k⟩
theorem RowsAt.mono {W : Str → Str → Int} {names : List Str} {d : Addr} (x : RowsAt prog w h d names W) (k : h.StaysIn h') : RowsAt prog w h' d names W := by
  obtain ⟨a, kvs, b, c⟩ := x; exact ⟨a, kvs, b.at (k _), c.mono k⟩
theorem RowsOf.snoc {W : Str → Str → Int} {names l : List Str} {kvs : List (Str × Value)} {x : Str} {v : Value} (y : RowsOf prog w h W names l kvs) (k : h.StaysIn h') (r : IsRow prog w h' (rowOf W names x) v) : RowsOf prog w h' W names (l ++ [x]) (kvs ++ [(x, v)]) := by
  refine ⟨by rw [List.map_append, y.1]; rfl, fun q hq => ?_⟩
  rcases List.mem_append.mp hq with hq | hq
  · exact (y.2 q hq).mono k
  · rw [List.mem_singleton] at hq; subst hq; exact r
end
theorem stored_twice {kvs : List (Str × Value)} {k : Str} {a b : Value} (h : valueAt kvs k = none) : stored (stored kvs k a) k b = kvs ++ [(k, b)] := by
  rw [stored_new h]
  have h0 : kvs.find? (fun kv => decide (kv.1 = k)) = none := by simpa [valueAt] using h
  have h1 : ∀ q ∈ kvs, q.1 ≠ k := fun q hq => by simpa using List.find?_eq_none.mp h0 q hq
  have h2 : valueAt (kvs ++ [(k, a)]) k = some a := by
    unfold valueAt
    rw [List.find?_append, h0]
    simp
  rw [stored_old h2, List.map_append]
  congr 1
  · exact (List.map_congr_left fun q hq => if_neg (h1 q hq)).trans (List.map_id _)
  · simp
section
variable {prog : Program} {w : World} {A : Around} {E : Value → Shared → Prop} {s : Shared} {L : Addr} {env : Env} {ks ks' : List (Str × NameKind)} {scope : Scope} {fr : List Free} {elt kx vx iter target : Expr} {ifs : List Expr} {pos py spos : Pos} {y : Str} {rest : List Stmt} {Q : Flow → Shared → Prop} {cl : List (Str × Addr)}
theorem k_lcL (H : En env L ks) (hk : (y, NameKind.local) ∈ ks) (hsw : (py.line == pos.line && !(scope.names.any fun (n, k) => n == y && (k == .local || k == .cell))) = true) (Z : CellsAt env cl) (ZC : CompScope scope fr ks') (hc : ∀ q ∈ fr, (q.1, q.2.1) ∈ cl)
    (h : CompScope scope fr ks' → WP (model prog w) A (eval iter env) (fun x s₁ => WP (model prog w) A (pyIter x) (fun it s₂ => LGoal prog w A E env scope fr (.ListComp elt [⟨target, iter, ifs, 0⟩] scope pos) (newList []) (compPost (model prog w) A E (some (assign (.Name y py) env)) (fun _ s' => WP (model prog w) A (execs rest env) Q E s')) it s₂) E s₁) E s)
    (hs : ∀ x, foldedSetIterable iter env x = pure x) : WP (model prog w) A (execs (.Assign [.Name y py] (.ListComp elt [⟨target, iter, ifs, 0⟩] scope pos) spos :: rest) env) Q E s := k_lc (p := ⟨s, s.heap, L⟩) H hk hsw Z ZC hc h hs
theorem k_dcL (H : En env L ks) (hk : (y, NameKind.local) ∈ ks) (hsw : (py.line == pos.line && !(scope.names.any fun (n, k) => n == y && (k == .local || k == .cell))) = true) (Z : CellsAt env cl) (ZC : CompScope scope fr ks') (hc : ∀ q ∈ fr, (q.1, q.2.1) ∈ cl)
    (h : CompScope scope fr ks' → WP (model prog w) A (eval iter env) (fun x s₁ => WP (model prog w) A (pyIter x) (fun it s₂ => LGoal prog w A E env scope fr (.DictComp kx vx [⟨target, iter, ifs, 0⟩] scope pos) newDict (compPost (model prog w) A E (some (assign (.Name y py) env)) (fun _ s' => WP (model prog w) A (execs rest env) Q E s')) it s₂) E s₁) E s)
    (hs : ∀ x, foldedSetIterable iter env x = pure x) : WP (model prog w) A (execs (.Assign [.Name y py] (.DictComp kx vx [⟨target, iter, ifs, 0⟩] scope pos) spos :: rest) env) Q E s := k_dc (p := ⟨s, s.heap, L⟩) H hk hsw Z ZC hc h hs
end
inductive StrsJ (f : Nat → Str) : Nat → Heap → List Value → Prop
  | mk {j : Nat} {g : Heap} {zs : List (Str × Tok)} : zs.map (·.1) = (List.range j).map f → StrsJ f j g (zs.map sV)
theorem StrsJ.snoc {f : Nat → Str} {j : Nat} {g g' : Heap} {ys : List Value} {k : Str} {t : Tok} (h : StrsJ f j g ys) (e : k = f j) : StrsJ f (j + 1) g' (ys ++ [.str k t]) := by
  obtain ⟨h⟩ := h
  rename_i zs
  have := StrsJ.mk (f := f) (j := j + 1) (g := g') (zs := zs ++ [(k, t)]) (by rw [List.map_append, h, List.range_succ, List.map_append, e]; rfl)
  rwa [List.map_append] at this
def wl_of (D : List Int) (k : Nat) : List Nat := wl (cm (D.getD k 0))
abbrev names5 : List Str := (List.range 5).map nm
theorem place_in2 : ∀ i < 5, ∀ j < 5, i ≠ j → 5 ≤ place (i : Nat) (j : Nat) ∧ place (i : Nat) (j : Nat) < 15 := by decide +kernel
inductive RowsJ (prog : Program) (w : World) (a wl d : Addr) (R : Int) (W : Str → Str → Int) : Nat → Heap → List Loc → List Own → Prop
  | mk {i : Nat} {g : Heap} {tr : Tok} {kvs : List (Str × Value)} : RowsOf prog w g W names5 ((List.range i).map nm) kvs → RowsJ prog w a wl d R W i g [("rows", .ref d), ("reach", .int R tr), ("words", .ref wl), ("cells", .ref a)] [(d, isDk (strKind prog w) kvs)]
inductive RowJ (prog : Program) (w : World) (a wl d r it : Addr) (i : Nat) (ti tr : Tok) (R : Int) (T : Nat → Int) (kvs : List (Str × Value)) : Nat → Heap → List Loc → List Own → Prop
  | mk {j : Nat} {g : Heap} {kws : List (Str × Value)} : AllI kws → numD kws = ((List.range j).filter (· ≠ i)).map (fun k => (nm k, T k)) →
      RowJ prog w a wl d r it i ti tr R T kvs j g [("row", .ref r), ("i", .int (i : Nat) ti), ("rows", .ref d), ("reach", .int R tr), ("words", .ref wl), ("cells", .ref a)] [(r, isDk (strKind prog w) kws), (d, isDk (strKind prog w) kvs), (it, isRI 0 (5 : Nat) (i + 1))]
section
variable {prog : Program} {w : World} {g : Heap} {a : Addr} {cs : List (Int × Tok)} {W : Str → Str → Int}
set_option maxHeartbeats 0 in
theorem rows_ct (B : Base (KK w) g) (ha : OAt g a (isL (cs.map iV))) (hcs : cs.length = 16) (hW : ∀ i < 5, ∀ j < 5, i ≠ j → W (nm i) (nm j) = tieI (cs.map Prod.fst) i j) :
    Ct prog w 3 g (.ref 145) [.ref a] (fun g' v => ∃ d, v = .ref d ∧ RowsAt prog w g' d names5 W) := by
  intro A s Q E fit hg ret
  refine enterQ (binds := [("cells", .ref a)])
    (ks := [("cells", .local), ("words", .local), ("reach", .local), ("rows", .local), ("i", .local), ("row", .local), ("j", .local), ("cell", .local), ("told", .local), ("range", .globalImplicit), ("_law_place", .globalImplicit), ("_levenshtein_distance", .globalImplicit), ("sub", .globalImplicit), ("lt", .globalImplicit), ("mul", .globalImplicit), ("neg", .globalImplicit), ("add", .globalImplicit)])
    fit B hg rfl (by kernel_rfl) rfl (by kernel_rfl) (by kernel_rfl) (by kernel_rfl) (by kernel_rfl) rfl rfl rfl ?_
  intro A' env L s u QQ EE hQ _ fit H C
  have item : ∀ (k : Nat), k < 16 → ∃ t, (cs.map iV)[k]? = some (.int ((cs.map Prod.fst).getD k 0) t) := fun k hk => by
    have h2 : k < cs.length := by omega
    exact ⟨cs[k].2, by rw [map_get (List.getElem?_eq_getElem h2)]; simp [h2]⟩
  obtain ⟨t15, e15⟩ := item 15 (by decide)
  generalize hD : cs.map Prod.fst = D at *
  have hR := reachI_in D
  have Z : CellsAt env [] := fun _ h => nomatch h
  refine k_lcL H (by wtm_at "mem") (by kernel_rfl) Z (CompScope.of (fr := []) (ks' := [("cell", .local), ("_law_word", .globalImplicit)]) [] rfl (by kernel_rfl) rfl (by kernel_rfl)) (by wtm_at "less") ?_ (fun _ => rfl)
  intro ZC
  refine l_upto ?_ (fun _ _ => rfl)
  wtm_at "go"
  refine ⟨a, _, 5, _, _, _, _, _, rfl, show s.heap.IsList a _ from ha.mono C.gh, rfl, by rw [List.length_map]; omega, C.tk, ?_⟩; clear C; intro s u m C
  rw [← List.map_take] at C
  obtain ⟨g1, C, hg1, hm⟩ := C.freeze
  refine it_list C.tk (C.tk.of hm).isList ?_; clear C; intro I s u C
  have hlt : (cs.take 5).length = 5 := by rw [List.length_take]; omega
  refine lc_store (Src.list fit.hh (OAt.isList hm)) (by rw [List.length_map]; omega) C.tk H (by wtm_at "mem") (by wtm_at "drop") ZC (frs_of Z (by wtm_at "frs")) (StrsJ fun k => word (D.getD k 0)) (.mk (zs := []) rfl) ?_ ?_
  · clear C
    intro S' L' cenv D' Q2 K2 H Y j v g2 ys s u E2 hE2 hj hv hg2 hJ C
    dsimp only [cpOf, List.map] at Y
    obtain ⟨q, hq, rfl⟩ : ∃ q, (cs.take 5)[j]? = some q ∧ iV q = v := by
      rw [List.getElem?_map, Option.map_eq_some_iff] at hv; exact hv
    have hq2 : D.getD j 0 = q.1 := by
      have : cs[j]? = some q := by
        rw [List.getElem?_take] at hq; split at hq
        · exact hq
        · cases hq
      rw [← hD]; simp [this]
    have B := B.mono hg1
    wtm_at "st"
    wtm_at "tst"
    wtm_at "go"
    refine (word_ct (B.mono C.af.gg)).use fit (by decide) C.tk ?_; clear C
    rintro _ g4 s u C hg4 ⟨tw, rfl⟩
    exact hE2.made hg4 C .here .here (hJ.snoc (by rw [hq2]))
  · clear C
    rintro g2 s u wl _ hg2 ⟨hws⟩ C
    rename_i ws
    obtain ⟨g3, C, hg3, hwl⟩ := C.freeze
    replace hwl : OAt g3 wl (isPL (ws.map sV)) := hwl
    have hga : g.StaysIn g3 := stays_trans hg1 (stays_trans hg2 hg3)
    have wat : ∀ (k : Nat), k < 5 → ∃ t, (ws.map sV)[k]? = some (.str (sv (wl_of D k)) t) := fun k hk => by
      have hl : ws.length = 5 := by
        have := congrArg List.length hws
        rw [List.length_map, List.length_map, List.length_range, List.length_map] at this; omega
      have h2 : k < ws.length := by omega
      refine ⟨ws[k].2, ?_⟩
      rw [map_get (List.getElem?_eq_getElem h2)]
      have := congrArg (fun l => l[k]?) hws
      have : ws[k].1 = word (D.getD k 0) := by
        rw [List.length_map, hlt] at this
        simpa [h2, hk] using this
      rw [wl_of, ← word_wl, ← this]
    wtm_at "go"
    refine l_item (show s.heap.IsList a _ from OAt.mono ha (stays_trans hga C.gh)) (by decide) (by decide) e15 ?_
    wtm_at "go"
    refine d_new B C.tk (strKind prog w) ?_; clear C; intro s u d hd C
    wtm_at "go"
    refine c_range C.tk ?_; clear C; intro s u r C
    wtm_at "go"
    refine it_range C.tk (by decide) ?_; clear C; intro it s u C
    rw [show ((D.getD 15 0).fdiv 2).fmod 4 + 3 = reachI D from rfl] at C
    replace C := C.sel (mu' := [(it, isRI 0 (5 : Nat) 0), (d, isDk (strKind prog w) [])]) (by wtm_at "sel")
    refine for_loopQ (RowsJ prog w a wl d (reachI D) W) (Src.range fit.hh 0 5) C.tk (.mk ⟨rfl, fun _ h => by cases h⟩) ht_name ?_ ?_
    · clear C
      rintro i v g4 s u ls mu E' Q1 hE hi ⟨ti, rfl⟩ hg4 hJ C
      cases hJ
      rename_i tr kvs hkvs
      rw [Int.zero_add]
      refine a_name ?_
      wtm_at "go"
      refine d_new B C.tk (strKind prog w) ?_; clear C; intro s u r hr C
      wtm_at "go"
      refine c_range C.tk ?_; clear C; intro s u r' C
      wtm_at "go"
      refine it_range C.tk (by decide) ?_; clear C; intro jt s u C
      replace C := C.sel (mu' := [(jt, isRI 0 (5 : Nat) 0), (r, isDk (strKind prog w) []), (d, isDk (strKind prog w) kvs), (it, isRI 0 (5 : Nat) (i + 1))]) (by wtm_at "sel")
      refine for_loopQ (RowJ prog w a wl d r it i ti tr (reachI D) (tieI D i) kvs) (Src.range fit.hh 0 5) C.tk (.mk (fun _ h => by cases h) rfl) ht_name ?_ ?_
      · clear C
        rintro j v g5 s u ls mu E2 Q2 hE2 hj ⟨tj, rfl⟩ hg5 hJ C
        cases hJ
        rename_i kws hI hkws
        rw [Int.zero_add]
        refine a_name ?_
        wtm_at "go"
        refine ⟨fun hb => ?_, fun hb => ?_⟩
        · have hne : i ≠ j := fun e => by rw [e] at hb; simp at hb
          wtm_at "go"
          refine (place_ct (B.mono C.af.gg) ⟨by omega, by omega⟩ ⟨by omega, by omega⟩).use fit (by decide) C.tk ?_; clear C
          rintro _ g6 s u C hg6 ⟨tpl, rfl⟩
          have hpl := place_in2 i hi j hj hne
          obtain ⟨tc, hc⟩ := item (place i j).toNat (by omega)
          have hg56 := stays_trans hg5 hg6
          refine l_item (show s.heap.IsList a _ from OAt.mono ha (stays_trans hga (stays_trans hg4 (stays_trans hg56 C.gh)))) (by omega) (by omega) hc ?_
          generalize hcell : D.getD (place (i : Int) (j : Int)).toNat 0 = cell at *
          wtm_at "go"
          obtain ⟨twi, hwi⟩ := wat i hi
          obtain ⟨twj, hwj⟩ := wat j hj
          have hw6 : OAt g6 wl (isPL (ws.map sV)) := OAt.mono hwl (stays_trans hg4 hg56)
          refine l_item (C.tk.of hw6).isList (by omega) (by omega) hwi ?_
          wtm_at "go"
          refine l_item (C.tk.of hw6).isList (by omega) (by omega) hwj ?_
          wtm_at "go"
          refine (sub_ct (B.mono C.af.gg)).use fit (by decide) C.tk ?_; clear C
          rintro _ g7 s u C hg7 ⟨ts, rfl⟩
          have eR : reachI D - 1 = (((reachI D).toNat - 1 : Nat) : Int) := by omega
          rw [eR]
          wtm_at "go"
          have hok := fun k => wl_ok _ (cm_lt (D.getD k 0))
          refine (lev_ct (B.mono C.af.gg) (hok i).2 (hok j).2 (hok i).1 (hok j).1 (by omega)).use fit (by decide) C.tk ?_; clear C
          rintro _ g8 s u C hg8 ⟨tl, rfl⟩
          have hlev := lev_price (D.getD i 0) (D.getD j 0) (r := (reachI D).toNat) (by omega) (by omega)
          have hp0 := priceI_in (D.getD i 0) (D.getD j 0)
          have hT := hW i hi j hj hne
          unfold tieI at hT
          rw [hcell] at hT
          rw [show (((reachI D).toNat : Nat) : Int) = reachI D by omega] at hlev
          generalize lev (Mine.wl (cm (D.getD i 0))) (Mine.wl (cm (D.getD j 0))) ((reachI D).toNat - 1) = told at *
          generalize hprice : priceI (D.getD i 0) (D.getD j 0) = price at *
          wtm_at "go"
          refine s_item (by omega) (by omega) (abc_item hj) ?_
          have hnone : valueAt kws (nm j) = none := valueAt_none_of_not_mem (by
            intro hm
            have : (kws.map (·.1)) = (numD kws).map (·.1) := by unfold numD; rw [List.map_map]; rfl
            rw [this, hkws, List.map_map] at hm
            obtain ⟨k, hk, e⟩ := List.mem_map.mp hm
            have := nm_inj e
            subst this
            simp at hk)
          have hkl : kws.length ≤ 5 := by
            have := congrArg List.length hkws
            have h2 := List.length_filter_le (fun k => decide (k ≠ i)) (List.range j)
            rw [List.length_range] at h2
            unfold numD at this
            rw [List.length_map, List.length_map] at this
            omega
          refine d_set C.tk (by wtm_at "pick") (strKind_is _ _ (nm j) _) (by omega) ?_; clear C; intro s u C
          wtm_at "go"
          refine (lt_ct (B.mono C.af.gg)).use fit (by decide) C.tk ?_; clear C
          rintro _ g9 s u C hg9 rfl
          wtm_at "go"
          refine c_isnb ?_
          wtm_at "go"
          have hg59 : g5.StaysIn g9 := stays_trans hg6 (stays_trans hg7 (stays_trans hg8 hg9))
          have fin : ∀ (k : Int) (t : Tok), k = tieI D i j → numD (kws ++ [(nm j, .int k t)]) = ((List.range (j + 1)).filter (· ≠ i)).map (fun k => (nm k, tieI D i k)) := fun k t e => by
            rw [ints_append, hkws, List.range_succ, List.filter_append, List.map_append, e]
            simp [numD, unI, Ne.symm hne]
          have finI : ∀ (k : Int) (t : Tok), AllI (kws ++ [(nm j, .int k t)]) := fun k t q hq => by
            rcases List.mem_append.mp hq with hq | hq
            · exact hI q hq
            · rw [List.mem_singleton] at hq; subst hq; exact ⟨_, _, rfl⟩
          refine ⟨fun hb => ?_, fun hb => ?_⟩
          · have hlt2 : (told : Int) < reachI D := by simpa using hb
            have hpr : price < reachI D := Decidable.byContradiction fun h => hlev.2 h hlt2
            have htp := hlev.1 hpr
            repeat ((fail_if_success (with_reducible show WP _ _ (eval (Expr.IfExp _ _ _ _) _) _ _ _)); wtm_at "ev")
            refine cut_int C.tk (if cell < 0 then -cell else cell) ?_ ?_
            · clear C; intro s u ta g10 hg10 C
              wtm_at "go"
              refine (add_ct (B.mono C.af.gg)).use fit (by decide) C.tk ?_; clear C
              rintro _ g11 s u C hg11 ⟨t1, rfl⟩
              wtm_at "go"
              refine (sub_ct (B.mono C.af.gg)).use fit (by decide) C.tk ?_; clear C
              rintro _ g12 s u C hg12 ⟨t2, rfl⟩
              wtm_at "go"
              refine (neg_ct (B.mono C.af.gg)).use fit (by decide) C.tk ?_; clear C
              rintro _ g13 s u C hg13 ⟨t3, rfl⟩
              wtm_at "go"
              refine (mul_ct (B.mono C.af.gg) ⟨by omega, by omega⟩).use fit (by decide) C.tk ?_; clear C
              rintro _ g14 s u C hg14 ⟨t4, rfl⟩
              wtm_at "go"
              refine s_item (by omega) (by omega) (abc_item hj) ?_
              refine d_set C.tk (by wtm_at "pick") (strKind_is _ _ (nm j) _) (by rw [stored_new hnone, List.length_append]; simp only [List.length_singleton]; omega) ?_; clear C; intro s u C
              rw [stored_twice hnone] at C
              wtm_at "go"
              refine hE2.next (stays_trans hg59 (stays_trans hg10 (stays_trans hg11 (stays_trans hg12 (stays_trans hg13 hg14))))) (C.sel (mu' := [(jt, isRI 0 (5 : Nat) (j + 1)), (r, isDk (strKind prog w) (kws ++ [(nm j, _)])), (d, isDk (strKind prog w) kvs), (it, isRI 0 (5 : Nat) (i + 1))]) (by wtm_at "sel")) .here (ls' := [("row", .ref r), ("i", .int (i : Nat) ti), ("rows", .ref d), ("reach", .int (reachI D) tr), ("words", .ref wl), ("cells", .ref a)]) (by wtm_at "less") (.mk (finI _ _) (fin _ _ ?_))
              unfold tieI; rw [hcell, hprice, if_pos hpr, htp, show -(price - (reachI D + 1)) = reachI D + 1 - price by omega]
            · intro R hRR
              wtm_at "go"
              refine (lt_ct (B.mono C.af.gg)).use fit (by decide) C.tk ?_; clear C
              rintro _ g10 s u C hg10 rfl
              wtm_at "go"
              refine c_isb ?_
              wtm_at "go"
              refine ⟨fun hb => ?_, fun hb => ?_⟩
              · have hc0 : cell < 0 := by simpa using hb
                rw [if_pos hc0] at hRR
                wtm_at "go"
                refine (neg_ct (B.mono C.af.gg)).use fit (by decide) C.tk ?_; clear C
                rintro _ g11 s u C hg11 ⟨t3, rfl⟩
                exact hRR _ _ _ _ (stays_trans hg10 hg11) C
              · have hc0 : ¬ cell < 0 := by simpa using hb
                rw [if_neg hc0] at hRR
                wtm_at "go"
                exact hRR _ _ _ _ hg10 C.tk
          · have hlt2 : ¬ (told : Int) < reachI D := by simpa using hb
            have hpr : ¬ price < reachI D := fun h => by have := hlev.1 h; omega
            rw [stored_new hnone] at C
            wtm_at "go"
            refine hE2.next hg59 (C.sel (mu' := [(jt, isRI 0 (5 : Nat) (j + 1)), (r, isDk (strKind prog w) (kws ++ [(nm j, _)])), (d, isDk (strKind prog w) kvs), (it, isRI 0 (5 : Nat) (i + 1))]) (by wtm_at "sel")) .here (ls' := [("row", .ref r), ("i", .int (i : Nat) ti), ("rows", .ref d), ("reach", .int (reachI D) tr), ("words", .ref wl), ("cells", .ref a)]) (by wtm_at "less") (.mk (finI _ _) (fin _ _ ?_))
            unfold tieI; rw [hcell, hprice, if_neg hpr]
        · have hne : i = j := by
            have : (i : Int) = j := by simpa using hb
            omega
          wtm_at "go"
          refine hE2.next (stays_refl _) C .here (ls' := [("row", .ref r), ("i", .int (i : Nat) ti), ("rows", .ref d), ("reach", .int (reachI D) tr), ("words", .ref wl), ("cells", .ref a)]) (by wtm_at "less") (.mk hI ?_)
          rw [hkws, List.range_succ, List.filter_append, hne]
          simp
      · clear C
        rintro g5 s u ls mu E2 hg5 hJ C
        cases hJ
        rename_i kws hI hkws
        obtain ⟨g6, C, hg6, hrw⟩ := C.freeze
        wtm_at "go"
        refine s_item (by omega) (by omega) (abc_item hi) ?_
        have hnone : valueAt kvs (nm i) = none := valueAt_none_of_not_mem (by
          rw [hkvs.1]
          intro hm
          obtain ⟨k, hk, e⟩ := List.mem_map.mp hm
          have := nm_inj e
          subst this
          simp at hk)
        have hkl : kvs.length ≤ 5 := by
          have := congrArg List.length hkvs.1
          simp only [List.length_map, List.length_range] at this
          omega
        refine d_set C.tk (by wtm_at "pick") (strKind_is _ _ (nm i) _) (by omega) ?_; clear C; intro s u C
        rw [stored_new hnone] at C
        wtm_at "go"
        refine hE.next (stays_trans hg5 hg6) (C.sel (mu' := [(it, isRI 0 (5 : Nat) (i + 1)), (d, isDk (strKind prog w) (kvs ++ [(nm i, _)]))]) (by wtm_at "sel")) .here (ls' := [("rows", .ref d), ("reach", .int (reachI D) tr), ("words", .ref wl), ("cells", .ref a)]) (by wtm_at "less") ?_
        refine .mk ?_
        rw [show List.range (i + 1) = List.range i ++ [i] from List.range_succ, List.map_append]
        refine hkvs.snoc (stays_trans hg5 hg6) ⟨r, kws, rfl, hr, OAt.dict hrw, hI, hkws.trans ?_⟩
        unfold rowOf names5
        rw [List.filter_map, List.map_map, show (List.range 5).filter ((fun y => decide (y ≠ nm i)) ∘ nm) = (List.range 5).filter (fun k => decide (k ≠ i)) from List.filter_congr fun k _ => decide_eq_decide.mpr ⟨fun h e => h (congrArg nm e), fun h e => h (nm_inj e)⟩]
        refine List.map_congr_left fun k hk => ?_
        obtain ⟨h1, h2⟩ := List.mem_filter.mp hk
        exact congrArg (Prod.mk (nm k)) (hW i hi k (List.mem_range.mp h1) (Ne.symm (of_decide_eq_true h2))).symm
    · clear C
      rintro g4 s u ls mu E2 hg4 hJ C
      cases hJ
      rename_i tr kvs hkvs
      wtm_at "go"
      obtain ⟨g6, C, hg6, hO⟩ := C.freeze
      exact hQ _ _ _ (ret _ _ _ C.tk.af ⟨d, rfl, hd, kvs, OAt.dict hO, hkvs.mono hg6⟩)
end
/-- what a table of numbers holds for a key, or nought -/
def lookI (ns : List (Str × Int)) (x : Str) : Int := ((ns.find? fun q => decide (q.1 = x)).map (·.2)).getD 0
def sumAt (ms : List (Str × Int)) (x : Str) : Int := (ms.map fun q => if q.1 = x then q.2 else 0).sum
theorem lookI_cons (q : Str × Int) (ns : List (Str × Int)) (x : Str) : lookI (q :: ns) x = if q.1 = x then q.2 else lookI ns x := by
  unfold lookI
  rw [List.find?_cons]
  by_cases h : q.1 = x
  · simp [h]
  · simp [h]
theorem lookI_none {ns : List (Str × Int)} {x : Str} (h : keyIn x ns = false) : lookI ns x = 0 := by
  unfold lookI
  rw [List.find?_eq_none.mpr fun q hq => by unfold keyIn at h; exact Bool.eq_false_iff.mp (List.any_eq_false.mp h q hq |> Bool.eq_false_iff.mpr) ]
  rfl
theorem lookI_add {k : Str} {n : Int} {x : Str} : ∀ (ns : List (Str × Int)), keyIn k ns = true → lookI (ns.map fun q => if q.1 = k then (q.1, q.2 + n) else q) x = lookI ns x + if k = x then n else 0
  | [], h => by simp [keyIn] at h
  | q :: ns, h => by
    rw [List.map_cons, lookI_cons, lookI_cons]
    by_cases h1 : q.1 = k
    · rw [if_pos h1]
      by_cases h2 : q.1 = x
      · rw [if_pos h2, if_pos h2, if_pos (h1 ▸ h2)]
      · rw [if_neg h2, if_neg h2, if_neg (h1 ▸ h2)]
        cases hk : keyIn k ns with
        | true => rw [lookI_add ns hk, if_neg (h1 ▸ h2)]
        | false =>
          have : (ns.map fun q => if q.1 = k then (q.1, q.2 + n) else q) = ns := (List.map_congr_left fun q hq => if_neg fun e => by unfold keyIn at hk; simpa [e] using List.any_eq_false.mp hk q hq).trans (List.map_id _)
          rw [this]; omega
    · rw [if_neg h1]
      have hk : keyIn k ns = true := by simpa [keyIn, h1] using h
      rw [lookI_add ns hk]
      by_cases h2 : q.1 = x
      · rw [if_pos h2, if_pos h2, if_neg fun e => h1 (h2.trans e.symm)]; omega
      · rw [if_neg h2, if_neg h2]
theorem lookI_snoc {k : Str} {n : Int} {x : Str} : ∀ (ns : List (Str × Int)), keyIn k ns = false → lookI (ns ++ [(k, n)]) x = lookI ns x + if k = x then n else 0
  | [], _ => by rw [List.nil_append, lookI_cons]; show _ = 0 + _; rw [Int.zero_add]; rfl
  | q :: ns, h => by
    have h' : ¬ q.1 = k ∧ keyIn k ns = false := by simpa [keyIn] using h
    rw [List.cons_append, lookI_cons, lookI_cons, lookI_snoc ns h'.2]
    by_cases h2 : q.1 = x
    · rw [if_pos h2, if_pos h2, if_neg fun e => h'.1 (h2.trans e.symm)]; omega
    · rw [if_neg h2, if_neg h2]
theorem lookI_upd (ns : List (Str × Int)) (k : Str) (n : Int) (x : Str) : lookI (upd ns k n) x = lookI ns x + if k = x then n else 0 := by
  unfold upd
  cases h : keyIn k ns with
  | true => rw [if_pos rfl]; exact lookI_add ns h
  | false => rw [if_neg Bool.false_ne_true]; exact lookI_snoc ns h
theorem keyIn_upd (ns : List (Str × Int)) (k : Str) (n : Int) (x : Str) : keyIn x (upd ns k n) = (keyIn x ns || decide (k = x)) := by
  unfold upd
  cases h : keyIn k ns with
  | true =>
    rw [if_pos rfl]
    have e : keyIn x (ns.map fun q => if q.1 = k then (q.1, q.2 + n) else q) = keyIn x ns := by
      unfold keyIn
      rw [List.any_map]
      congr 1; funext q; show decide ((if q.1 = k then (q.1, q.2 + n) else q).1 = x) = _; split <;> rfl
    rw [e]
    by_cases hx : k = x
    · subst hx; rw [h]; rfl
    · simp [hx]
  | false => rw [if_neg Bool.false_ne_true]; simp [keyIn]
theorem lookI_addC (x : Str) : ∀ (ms ns : List (Str × Int)), lookI (addC ns ms) x = lookI ns x + sumAt ms x
  | [], ns => by simp [addC, sumAt]
  | q :: ms, ns => by
    show lookI (addC (upd ns q.1 q.2) ms) x = _
    rw [lookI_addC x ms, lookI_upd]
    unfold sumAt
    rw [List.map_cons, List.sum_cons]; omega
theorem keyIn_addC (x : Str) : ∀ (ms ns : List (Str × Int)), keyIn x (addC ns ms) = (keyIn x ns || keyIn x ms)
  | [], ns => by simp [addC, keyIn]
  | q :: ms, ns => by
    show keyIn x (addC (upd ns q.1 q.2) ms) = _
    rw [keyIn_addC x ms, keyIn_upd, Bool.or_assoc]; rfl
theorem upd_len (ns : List (Str × Int)) (k : Str) (n : Int) : (upd ns k n).length ≤ ns.length + 1 := by
  unfold upd; split <;> simp
theorem addC_len : ∀ (ms ns : List (Str × Int)), (addC ns ms).length ≤ ns.length + ms.length
  | [], ns => by simp [addC]
  | q :: ms, ns => by
    have h1 := addC_len ms (upd ns q.1 q.2)
    have h2 := upd_len ns q.1 q.2
    show (addC (upd ns q.1 q.2) ms).length ≤ _
    rw [List.length_cons]; omega
section
variable {W : Str → Str → Int}
theorem sumAt_not {x : Str} : ∀ {ms : List (Str × Int)}, (∀ q ∈ ms, q.1 ≠ x) → sumAt ms x = 0
  | [], _ => rfl
  | q :: ms, h => by
    unfold sumAt
    rw [List.map_cons, List.sum_cons, if_neg (h q (.head _))]
    show (0 : Int) + sumAt ms x = 0
    rw [sumAt_not fun q hq => h q (.tail _ hq)]; rfl
theorem row_at {x c : Str} : ∀ {names : List Str}, names.Nodup → x ∈ names → x ≠ c → sumAt (rowOf W names c) x = W c x
  | y :: r, hn, hx, hc => by
    rw [List.nodup_cons] at hn
    unfold rowOf
    have tailNot : x = y → sumAt ((r.filter (· ≠ c)).map fun z => (z, W c z)) x = 0 := fun e => sumAt_not fun q hq => by
      obtain ⟨z, hz, rfl⟩ := List.mem_map.mp hq
      intro e'
      exact hn.1 (e ▸ e' ▸ (List.mem_filter.mp hz).1)
    by_cases hy : y = c
    · rw [List.filter_cons_of_neg (by simp [hy])]
      rcases List.mem_cons.mp hx with e | hx
      · exact absurd (e.trans hy) hc
      · exact row_at hn.2 hx hc
    · rw [List.filter_cons_of_pos (by simp [hy]), List.map_cons]
      unfold sumAt
      rw [List.map_cons, List.sum_cons]
      show (if y = x then W c y else 0) + sumAt ((r.filter (· ≠ c)).map fun z => (z, W c z)) x = _
      rcases List.mem_cons.mp hx with e | hx
      · rw [if_pos e.symm, tailNot e, e]; omega
      · rw [if_neg fun e : y = x => hn.1 (e ▸ hx)]
        have := row_at hn.2 hx hc
        unfold rowOf at this
        rw [this]; omega
theorem row_key {x c : Str} {names : List Str} (hx : x ∈ names) (hc : x ≠ c) : keyIn x (rowOf W names c) = true := by
  unfold keyIn rowOf
  rw [List.any_map, List.any_eq_true]
  exact ⟨x, List.mem_filter.mpr ⟨hx, by simpa using hc⟩, by simp⟩
/-- the ties of all that are called -/
def pullI (W : Str → Str → Int) (cs : List Str) (x : Str) : Int := (cs.map fun c => W c x).sum
def pullD (W : Str → Str → Int) (names cs : List Str) : List (Str × Int) := cs.foldl (fun acc c => addC acc (rowOf W names c)) []
theorem pullD_snoc (names cs : List Str) (c : Str) : pullD W names (cs ++ [c]) = addC (pullD W names cs) (rowOf W names c) := by simp [pullD]
theorem pullI_snoc (cs : List Str) (c x : Str) : pullI W (cs ++ [c]) x = pullI W cs x + W c x := by simp [pullI]
theorem pull_look_rev {x : Str} {names : List Str} (hn : names.Nodup) (hx : x ∈ names) : ∀ (cs : List Str), x ∉ cs → lookI (pullD W names cs.reverse) x = pullI W cs.reverse x
  | [], _ => rfl
  | c :: cs, h => by
    rw [List.reverse_cons, pullD_snoc, pullI_snoc, lookI_addC, pull_look_rev hn hx cs fun m => h (.tail _ m), row_at hn hx fun e => h (e ▸ .head _)]
theorem pull_look {x : Str} {names cs : List Str} (hn : names.Nodup) (hx : x ∈ names) (h : x ∉ cs) : lookI (pullD W names cs) x = pullI W cs x := by
  have := pull_look_rev (W := W) hn hx cs.reverse (by simpa using h)
  rwa [List.reverse_reverse] at this
theorem pull_key {x : Str} {names cs : List Str} (hx : x ∈ names) (h : x ∉ cs) (hc : cs ≠ []) : keyIn x (pullD W names cs) = true := by
  rw [← List.dropLast_concat_getLast hc, pullD_snoc, keyIn_addC, row_key hx (fun e => h (by rw [e]; exact List.getLast_mem hc)), Bool.or_true]
theorem pull_len_rev (names : List Str) : ∀ (cs : List Str), (pullD W names cs.reverse).length ≤ cs.length * names.length
  | [] => Nat.zero_le _
  | c :: cs => by
    rw [List.reverse_cons, pullD_snoc]
    have h1 := addC_len (rowOf W names c) (pullD W names cs.reverse)
    have h2 := pull_len_rev names cs
    have h3 : (rowOf W names c).length ≤ names.length := by unfold rowOf; rw [List.length_map]; exact List.length_filter_le _ _
    rw [List.length_cons, Nat.succ_mul]; omega
theorem pull_len (names cs : List Str) : (pullD W names cs).length ≤ cs.length * names.length := by
  have := pull_len_rev (W := W) names cs.reverse
  rwa [List.reverse_reverse, List.length_reverse] at this
end
theorem look_val {kvs : List (Str × Value)} (hI : AllI kvs) (x : Str) {t : Tok} : ∃ u, (valueAt kvs x).getD (.int 0 t) = .int (lookI (numD kvs) x) u := by
  induction kvs with
  | nil => exact ⟨t, rfl⟩
  | cons q r ih =>
    obtain ⟨u, hu⟩ := ih fun q hq => hI q (.tail _ hq)
    obtain ⟨n, tn, e⟩ := hI q (.head _)
    show ∃ u, _ = Value.int (lookI ((q.1, unI q.2) :: numD r) x) u
    rw [lookI_cons]
    unfold valueAt
    rw [List.find?_cons]
    by_cases h : q.1 = x
    · exact ⟨tn, by simp [h, e, unI]⟩
    · refine ⟨u, ?_⟩
      rw [if_neg h]
      unfold valueAt at hu
      simpa [h] using hu
theorem look_some {kvs : List (Str × Value)} (hI : AllI kvs) {x : Str} (hk : keyIn x (numD kvs) = true) : ∃ u, valueAt kvs x = some (.int (lookI (numD kvs) x) u) := by
  rw [keyIn_ints] at hk
  obtain ⟨v, hv⟩ := Option.isSome_iff_exists.mp hk
  obtain ⟨u, hu⟩ := look_val hI x (t := 0)
  rw [hv] at hu
  exact ⟨u, by rw [hv]; exact congrArg some hu⟩
/-- names called one by one, each of those that are tied the most -/
inductive Called (W : Str → Str → Int) (tn : Int) (pl : Str → Nat) (xs : List (Str × Tok)) : List (Str × Tok) → List (Str × Tok) → Prop
  | nil : Called W tn pl xs [] xs
  | step {ys zs : List (Str × Tok)} {q : Str × Tok} : Called W tn pl xs ys zs → q ∈ zs → (∀ z ∈ zs, gtP (pullI W (ys.map (·.1)) z.1) (tn * (pl z.1 : Nat)) (pullI W (ys.map (·.1)) q.1) (tn * (pl q.1 : Nat)) = false) →
      Called W tn pl xs (ys ++ [q]) (zs.filter fun z => decide (z.1 ≠ q.1))
section
variable {W : Str → Str → Int} {tn : Int} {pl : Str → Nat} {xs ys zs : List (Str × Tok)}
theorem filter_perm {q : Str × Tok} : ∀ {zs : List (Str × Tok)}, (zs.map (·.1)).Nodup → q ∈ zs → (q :: zs.filter fun z => decide (z.1 ≠ q.1)).Perm zs
  | y :: r, hn, hq => by
    rw [List.map_cons, List.nodup_cons] at hn
    rcases List.mem_cons.mp hq with rfl | hq
    · rw [List.filter_cons_of_neg (by simp), List.filter_eq_self.mpr fun z hz => by
        have : z.1 ≠ q.1 := fun e => hn.1 (e ▸ List.mem_map_of_mem hz)
        simpa using this]
    · have : y.1 ≠ q.1 := fun e => hn.1 (e ▸ List.mem_map_of_mem hq)
      rw [List.filter_cons_of_pos (by simpa using this)]
      exact (List.Perm.swap _ _ _).trans ((filter_perm hn.2 hq).cons _)
theorem Called.perm (h : Called W tn pl xs ys zs) (hn : (xs.map (·.1)).Nodup) : (ys ++ zs).Perm xs := by
  induction h with
  | nil => exact .refl _
  | step h hq _ ih =>
    have hz : (((_ : List (Str × Tok)) ++ _).map (·.1)).Nodup := (ih.map (·.1)).nodup_iff.mpr hn
    rw [List.map_append, List.nodup_append] at hz
    rw [List.append_assoc]
    exact ((filter_perm hz.2.1 hq).append_left _).trans ih
theorem Called.ord (h : Called W tn pl xs ys zs) : ∀ (i : Nat) q, ys[i]? = some q → ∀ z ∈ (ys ++ zs).drop i, gtP (pullI W ((ys.take i).map (·.1)) z.1) (tn * (pl z.1 : Nat)) (pullI W ((ys.take i).map (·.1)) q.1) (tn * (pl q.1 : Nat)) = false := by
  induction h with
  | nil => intro i q h; simp at h
  | @step ys zs q h hq hb ih =>
    intro i q' hi z hz
    have sub : ∀ z ∈ [q] ++ (zs.filter fun z => decide (z.1 ≠ q.1)), z ∈ zs := fun z hz => by
      rcases List.mem_append.mp hz with hz | hz
      · rw [List.mem_singleton] at hz; subst hz; exact hq
      · exact (List.mem_filter.mp hz).1
    rw [List.append_assoc] at hz
    rcases Nat.lt_or_ge i ys.length with hl | hl
    · rw [List.getElem?_append_left hl] at hi
      rw [List.take_append_of_le_length (Nat.le_of_lt hl)]
      refine ih i q' hi z ?_
      rw [List.drop_append_of_le_length (Nat.le_of_lt hl)] at hz ⊢
      rcases List.mem_append.mp hz with hz | hz
      · exact List.mem_append_left _ hz
      · exact List.mem_append_right _ (sub z hz)
    · have hil : i = ys.length := by
        have := (List.getElem?_eq_some_iff.mp hi).1
        rw [List.length_append, List.length_singleton] at this; omega
      subst hil
      rw [List.getElem?_append_right (Nat.le_refl _), Nat.sub_self] at hi
      cases hi
      rw [List.drop_append_of_le_length (Nat.le_refl _), List.drop_length, List.nil_append] at hz
      rw [List.take_append_of_le_length (Nat.le_refl _), List.take_length]
      exact hb z (sub z hz)
end
section
variable {prog : Program} {w : World} {g : Heap}
theorem d_typed {s : Shared} {d : Addr} {kvs : List (Str × Value)} (hD : s.heap.DictOf (strKind prog w) d kvs) : s.TypeIs (.ref d) "dict" ∧ ∀ b, Value.ref d = .ref b → ∃ ob, s.heap.get? b = some ob ∧ ob.dict = none := by
  refine ⟨hD.typeIs, ?_⟩
  obtain ⟨o, es, ep, e, h, _⟩ := hD
  exact fun b hb => by cases hb; exact ⟨o, e, h.2.1⟩
def ltK (a b : Nat) (x y : Int) (k : Nat) : Bool := if k = 0 then decide ((a : Int) < b) else decide (x < y)
def gtK (a b : Nat) (x y : Int) (k : Nat) : Bool := if k = 0 then decide ((a : Int) > b) else decide (x > y)
theorem tup_at {T : Addr} {a : Nat} {x : Int} {ta tx : Tok} (hT : OAt g T (isPT [.int (a : Nat) ta, .int x tx])) (A : Around) (s : Shared) (n : Nat) (Q E : Value → Shared → Prop) (value : Expr) (ip : Pos) (k : Nat) (u : Tok) (hk : k < 2) (hg : g.StaysIn s.heap)
    (h : Q (if k = 0 then .int (a : Nat) ta else .int x tx) (tk s n)) : WP (model prog w) A (subscriptTail value (.Name "index" ip) (.ref T) (.int (k : Nat) u)) Q E (tk s n) := by
  match k, hk with
  | 0, _ => exact tup_item (OAt.mono hT hg) (by decide) (by decide) rfl h
  | 1, _ => exact tup_item (OAt.mono hT hg) (by decide) (by decide) rfl h
theorem comparePair_ct (B : Base (KK w) g) {c l t1 t2 T U : Addr} {dir x y : Int} {a b : Nat} {a1 a2 a3 a4 ta tx tb ty : Tok}
    (hc : InstOne g 38 "comp_select_list" c (.ref l)) (hl : OAt g l (isPL [.ref t1, .ref t2])) (h1 : OAt g t1 (isPT [.int 1 a1, .int 3 a2])) (h2 : OAt g t2 (isPT [.int 0 a3, .int dir a4]))
    (hT : OAt g T (isPT [.int (a : Nat) ta, .int x tx])) (hU : OAt g U (isPT [.int (b : Nat) tb, .int y ty])) :
    Ct prog w 1 g (.ref 35) [.ref c, .ref T, .ref U] (fun _ v => ∃ t, v = .int (cmpv (ltK a b x y) (gtK a b x y) dir) t) := by
  refine compare_ct B (fun k => if k = 0 then .int (a : Nat) ta else .int x tx) (fun k => if k = 0 then .int (b : Nat) tb else .int y ty) hc hl h1 h2 (tup_at hT) (tup_at hU) (fun A s Q E k hk h => ?_) (fun A s Q E k hk h => ?_)
  · match k, hk with
    | 0, _ => exact c_lt h
    | 1, _ => exact c_lt h
  · match k, hk with
    | 0, _ => exact c_gt h
    | 1, _ => exact c_gt h
theorem cmp_pick {a b : Nat} {p q tn : Int} (ha : a ≠ b) (htn : tn = 1 ∨ tn = -1) :
    ((cmpv (ltK a b (-p) (-q)) (gtK a b (-p) (-q)) (-2 * tn) = -3 ∨ cmpv (ltK a b (-p) (-q)) (gtK a b (-p) (-q)) (-2 * tn) = -2) ∧ gtP q (tn * b) p (tn * a) = false) ∨
    ((cmpv (ltK a b (-p) (-q)) (gtK a b (-p) (-q)) (-2 * tn) = 2 ∨ cmpv (ltK a b (-p) (-q)) (gtK a b (-p) (-q)) (-2 * tn) = 3) ∧ gtP p (tn * a) q (tn * b) = false) := by
  unfold cmpv ltK gtK
  rw [gtP_no, gtP_no]
  simp only [Nat.one_ne_zero, if_false, if_true, decide_eq_true_eq]
  rcases htn with rfl | rfl
  all_goals
    split
    · omega
    split
    · omega
    split
    · omega
    split
    · omega
    · omega
end
theorem valueAt_old {kvs r : List (Str × Value)} {x : Str} {v : Value} (h : valueAt kvs x = some v) : valueAt (kvs ++ r) x = some v := by
  unfold valueAt at h ⊢
  rw [List.find?_append]
  cases e : kvs.find? fun kv => decide (kv.1 = x) with
  | none => rw [e] at h; cases h
  | some q => rw [e] at h; exact h
theorem valueAt_new {kvs : List (Str × Value)} {x : Str} {v : Value} (h : valueAt kvs x = none) : valueAt (kvs ++ [(x, v)]) x = some v := by
  unfold valueAt at h ⊢
  have h0 : kvs.find? (fun kv => decide (kv.1 = x)) = none := by simpa using h
  rw [List.find?_append, h0]; simp
theorem valueAt_of_key {kvs : List (Str × Value)} {x : Str} (h : x ∈ kvs.map (·.1)) : ∃ v, valueAt kvs x = some v := by
  cases e : valueAt kvs x with
  | some v => exact ⟨v, rfl⟩
  | none =>
    have h0 : kvs.find? (fun kv => decide (kv.1 = x)) = none := by simpa [valueAt] using e
    obtain ⟨q, hq, hx⟩ := List.mem_map.mp h
    have := List.find?_eq_none.mp h0 q hq
    simp [hx] at this
theorem nodup_at {xs : List (Str × Tok)} (hn : (xs.map (·.1)).Nodup) {i j : Nat} {q q' : Str × Tok} (hi : xs[i]? = some q) (hj : xs[j]? = some q') (e : q.1 = q'.1) : i = j := by
  have h1 : (xs.map (·.1))[i]? = some q.1 := by rw [List.getElem?_map, hi]; rfl
  have h2 : (xs.map (·.1))[j]? = some q.1 := by rw [List.getElem?_map, hj, e]; rfl
  exact (List.getElem?_inj (List.getElem?_eq_some_iff.mp h1).1 hn).mp (h1.trans h2.symm)
/-- the place of each name in the row of names -/
inductive PlacesJ (xs : List (Str × Tok)) : Nat → Heap → List (Str × Value) → Prop
  | mk {i : Nat} {g : Heap} {kvs : List (Str × Value)} : kvs.map (·.1) = (xs.take i).map (·.1) → (∀ (j : Nat) q, j < i → xs[j]? = some q → ∃ t, valueAt kvs q.1 = some (.int (j : Nat) t)) → PlacesJ xs i g kvs
section
variable {prog : Program} {w : World} {g : Heap} {d l c sl t1 t2 : Addr} {xs : List (Str × Tok)} {W : Str → Str → Int} {tn : Int} {pl : Str → Nat} {a1 a2 a3 a4 : Tok}
inductive CalledI (prog : Program) (w : World) (p : Par) (g₀ : Heap) (L d l c pc : Addr) (W : Str → Str → Int) (tn : Int) (pl : Str → Nat) (xs : List (Str × Tok)) (tw : Value) : Nat → Shared → Prop
  | mk {g : Heap} {s : Shared} {ys zs : List (Str × Tok)} {lf ln pu : Addr} {kvs : List (Str × Value)} {fv : Option Value} : g₀.StaysIn g → Called W tn pl xs ys zs → OAt g lf (isPL (zs.map sV)) → (pu == sysModules) = false → g.DictOf (strKind prog w) pu kvs → AllI kvs →
      (zs ≠ [] → numD kvs = pullD W (xs.map (·.1)) (ys.map (·.1))) → (zs = [] → numD kvs = pullD W (xs.map (·.1)) (ys.map (·.1)).dropLast) →
      Cx p g s [("left", .ref lf), ("line", .ref ln), ("places", .ref pc), ("pull", .ref pu), ("rows", .ref d), ("live", .ref l), ("comp", .ref c)] [(ln, isPL (ys.map sV)), (L + 1, isCell (some tw)), (L + 1 + 1, isCell fv)] →
      CalledI prog w p g₀ L d l c pc W tn pl xs tw zs.length s
inductive FiltJ (zs : List (Str × Tok)) (x : Str) : Nat → Heap → List Value → Prop
  | mk {j : Nat} {g : Heap} : FiltJ zs x j g (((zs.take j).filter fun z => decide (z.1 ≠ x)).map sV)
inductive FirstJ (L lf ln pc pu d l c : Addr) (ys zs : List (Str × Tok)) (tw : Value) (P Y : Str → Int) : Nat → Heap → List Loc → List Own → Prop
  | mk {i : Nat} {g : Heap} {m : Nat} {q : Str × Tok} : m ≤ i → zs[m]? = some q → (∀ (k : Nat) z, k ≤ i → zs[k]? = some z → gtP (P z.1) (Y z.1) (P q.1) (Y q.1) = false) →
      FirstJ L lf ln pc pu d l c ys zs tw P Y i g [("left", .ref lf), ("line", .ref ln), ("places", .ref pc), ("pull", .ref pu), ("rows", .ref d), ("live", .ref l), ("comp", .ref c)] [(ln, isPL (ys.map sV)), (L + 1, isCell (some tw)), (L + 1 + 1, isCell (some (sV q)))]
set_option maxHeartbeats 0 in
theorem called_ct (B : Base (KK w) g) (hd : RowsAt prog w g d (xs.map (·.1)) W) (hl : OAt g l (isPL (xs.map sV))) (hn : (xs.map (·.1)).Nodup) (hx : xs.length ≤ 5) (ht0 : ∀ q ∈ xs, q.2 ≠ 0) (htk : ∀ q ∈ xs, ∀ q' ∈ xs, q.2 = q'.2 → q.1 = q'.1)
    (hc : InstOne g 38 "comp_select_list" c (.ref sl)) (hsl : OAt g sl (isPL [.ref t1, .ref t2])) (h1 : OAt g t1 (isPT [.int 1 a1, .int 3 a2])) (h2 : OAt g t2 (isPT [.int 0 a3, .int (-2 * tn) a4])) (htn : tn = 1 ∨ tn = -1) (hpl : ∀ (j : Nat) q, xs[j]? = some q → pl q.1 = j) :
    Ct prog w 2 g (.ref 150) [.ref d, .ref l, .ref c] (fun g' v => ∃ (T ln pu : Addr) (ys : List (Str × Tok)) (kvs : List (Str × Value)), v = .ref T ∧ OAt g' T (isPT [.ref ln, .ref pu]) ∧ OAt g' ln (isPL (ys.map sV)) ∧ Called W tn pl xs ys [] ∧
      (pu == sysModules) = false ∧ g'.DictOf (strKind prog w) pu kvs ∧ AllI kvs ∧ numD kvs = pullD W (xs.map (·.1)) (ys.map (·.1)).dropLast) := by
  intro A s₀ Q E fit hg ret
  obtain ⟨hd0, kvr, hdD, hkr, hrow⟩ := hd
  refine enterC (binds := [("rows", .ref d), ("live", .ref l), ("comp", .ref c)]) (bl := [("rows", .ref d), ("live", .ref l), ("comp", .ref c)]) (cs := [("twice", none), ("first", none)])
    (ks := [("rows", .local), ("live", .local), ("comp", .local), ("pull", .local), ("name", .local), ("places", .local), ("line", .local), ("left", .local), ("told", .local), ("concat", .globalImplicit), ("list", .globalImplicit), ("neg", .globalImplicit), ("add_callers", .globalImplicit)])
    fit B hg rfl (by kernel_rfl) rfl (by kernel_rfl) (by kernel_rfl) (by kernel_rfl) (by kernel_rfl) (by kernel_rfl) (by kernel_rfl) (by kernel_rfl) rfl rfl rfl ?_
  intro A' env L s u QQ EE hQ _ fit H Z C
  dsimp only [cellAdr, cellOwn] at Z C
  wtm_at "go"
  refine d_new B C.tk (strKind prog w) ?_; clear C; intro s u pu hpu C
  obtain ⟨g1, C, hg1, hpuD⟩ := C.freeze
  wtm_at "go"
  refine l_rev ?_ (fun _ _ => rfl)
  wtm_at "go"
  refine ⟨l, _, _, _, _, _, _, rfl, (C.tk.of (hl.mono hg1)).isList, rfl, by rw [List.length_map]; omega, C.tk, ?_⟩; clear C; intro s u rv C
  obtain ⟨g2, C, hg2, hrv⟩ := C.freeze
  wtm_at "go"
  refine (concat_list_ct (B.mono C.af.gg) (hl.mono (stays_trans hg1 hg2)) hrv (by simp only [List.length_reverse, List.length_map]; omega)).use fit (by decide) C.tk ?_; clear C
  rintro _ g3 s u C hg3 ⟨tw, rfl, htw⟩
  rw [← List.map_reverse, ← List.map_append] at htw
  wtm_at "go"
  have hg3' : g.StaysIn g3 := stays_trans hg1 (stays_trans hg2 hg3)
  refine k_dcL H (by wtm_at "mem") (by kernel_rfl) Z (CompScope.of (fr := [("twice", L + 1, .ref tw)]) (ks' := [("name", .local), ("indexOf", .globalImplicit)]) ["twice"] rfl (by kernel_rfl) rfl (by kernel_rfl)) (by wtm_at "less") ?_ (fun _ => rfl)
  intro ZC
  wtm_at "go"
  refine it_list C.tk (C.tk.of (hl.mono hg3')).isList ?_; clear C; intro I s u C
  refine dc_store (strKind prog w) (Src.list fit.hh (hl.mono hg3').isList) (by rw [List.length_map]; omega) C.tk H (by wtm_at "mem") (by wtm_at "drop") ZC (frs_of Z (by wtm_at "frs")) (PlacesJ xs) (.mk rfl fun j q h => absurd h (Nat.not_lt_zero _)) ?_ ?_
  · clear C
    intro S' L' cenv D' Q2 K2 H Y j v g4 kvs s u E2 hE2 hj hv hg4 hJ C
    dsimp only [cpOf, List.map] at Y
    obtain ⟨q, hq, rfl⟩ : ∃ q, xs[j]? = some q ∧ sV q = v := by
      rw [List.getElem?_map, Option.map_eq_some_iff] at hv; exact hv
    have hjx : j < xs.length := (List.getElem?_eq_some_iff.mp hq).1
    have B := B.mono hg3'
    have hm : ∀ q' ∈ xs ++ xs.reverse, q' ∈ xs := fun q' h => by
      rcases List.mem_append.mp h with h | h
      · exact h
      · exact List.mem_reverse.mp h
    have hmq := List.mem_of_getElem? hq
    wtm_at "st"
    wtm_at "tst"
    wtm_at "go"
    refine (indexOf_ct (B.mono C.af.gg) (htw.mono hg4) (j := j) (by rw [List.getElem?_append_left hjx]; exact hq) (fun m q' hm' h e => ?_) (fun q' h => ht0 q' (hm q' h)) (fun q' h e => htk q' (hm q' h) q hmq e)).use fit (by decide) C.tk ?_
    · rw [List.getElem?_append_left (Nat.lt_trans hm' hjx)] at h
      exact absurd (nodup_at hn h hq e) (Nat.ne_of_lt hm')
    clear C
    rintro _ g5 s u C hg5 ⟨ti, rfl⟩
    refine hE2.made (strKind_is _ _ q.1 _) hg5 C .here .here ?_
    obtain ⟨hk, hv⟩ := hJ
    have hnone : valueAt kvs q.1 = none := valueAt_none_of_not_mem (by
      rw [hk]
      intro h
      obtain ⟨q', h1, h2⟩ := List.mem_map.mp h
      obtain ⟨m, h3⟩ := List.getElem?_of_mem h1
      rw [List.getElem?_take] at h3
      split at h3
      · rename_i h4
        exact absurd (nodup_at hn h3 hq h2) (Nat.ne_of_lt h4)
      · cases h3)
    rw [stored_new hnone]
    refine .mk (by rw [List.map_append, hk, take_snoc hq, List.map_append]; rfl) fun m q' hm' h => ?_
    rcases Nat.lt_or_ge m j with h5 | h5
    · obtain ⟨t, h6⟩ := hv m q' h5 h
      exact ⟨t, valueAt_old h6⟩
    · obtain rfl : m = j := by omega
      rw [hq] at h
      cases h
      exact ⟨ti, valueAt_new hnone⟩
  · clear C
    rintro g4 s u pc kvp _ hg4 hJ C
    rw [List.length_map] at hJ
    obtain ⟨-, hplace⟩ := hJ
    obtain ⟨g5, C, hg5, hpc⟩ := C.freeze
    wtm_at "go"
    refine l_list ?_
    wtm_at "go"
    refine ⟨Nat.le_of_ble_eq_true rfl, _, _, _, _, C.tk, ?_⟩; clear C; intro s u ln C
    wtm_at "go"
    have hg5' : g3.StaysIn g5 := stays_trans hg4 hg5
    refine c_list C.tk (C.tk.of (hl.mono (stays_trans hg3' hg5'))) (by rw [List.length_map]; omega) ?_; clear C; intro s u lf C
    obtain ⟨g6, C, hg6, hlf⟩ := C.freeze
    wtm_at "st"
    have hgp : g1.StaysIn g6 := stays_trans hg2 (stays_trans hg3 (stays_trans hg5' hg6))
    have hgg : g.StaysIn g6 := stays_trans hg1 hgp
    replace hpc : g6.DictOf (strKind prog w) pc kvp := (OAt.dict hpc).at (hg6 _)
    refine k_whileQ (CalledI prog w ⟨s₀, g, L⟩ g6 L d l c pc W tn pl xs (.ref tw)) (fun n s => n ≠ 0 ∧ CalledI prog w ⟨s₀, g, L⟩ g6 L d l c pc W tn pl xs (.ref tw) n s) (CalledI prog w ⟨s₀, g, L⟩ g6 L d l c pc W tn pl xs (.ref tw) 0) xs.length
      (.mk (stays_refl _) .nil hlf hpu ((OAt.dict hpuD).at (hgp _)) (fun _ h => by cases h) (fun _ => rfl) (fun _ => rfl) (show Cx _ _ _ _ ((ln, isPL (([] : List (Str × Tok)).map sV)) :: _) from C.tk)) ?_ ?_ ?_
    · clear C hlf
      rintro n s u E2 ⟨hgx, hCd, hlf, hpu, hpD, hAll, hk1, hk2, C⟩
      wtm_at "go"
      refine l_list ?_
      wtm_at "go"
      refine ⟨Nat.le_of_ble_eq_true rfl, _, _, _, _, C.tk, ?_⟩
      intro s u b C'
      refine c_nempty fit.units (C'.tk.of hlf) (C'.my (.head _)) ?_
      wtm_at "go"
      refine ⟨fun hb => ⟨fun h0 => ?_, .mk hgx hCd hlf hpu hpD hAll hk1 hk2 C'.tk.drop⟩, fun hb => ?_⟩
      · have := of_decide_eq_true hb
        rw [List.length_eq_zero_iff.mp h0] at this
        exact this rfl
      · have h0 := of_decide_eq_false hb
        rename_i ys zs _ _ _ _ _
        cases zs with
        | nil => exact .mk hgx hCd hlf hpu hpD hAll hk1 hk2 C'.tk.drop
        | cons z r => exact absurd (List.cons_ne_nil _ _) h0
    · clear C hlf
      rintro n s u E2 Q2 hnext hret ⟨hn0, hgx, hCd, hlf, hpu, hpD, hAll, hk1, hk2, C⟩
      rename_i g7 ys zs lf ln pu kvs fv
      cases zs with
      | nil => exact absurd rfl hn0
      | cons z0 zr =>
      have hperm := hCd.perm hn
      have hlen : ys.length + (zr.length + 1) = xs.length := by
        have := hperm.length_eq
        rwa [List.length_append, List.length_cons] at this
      have hnum := hk1 (List.cons_ne_nil _ _)
      have hg7 : g.StaysIn g7 := stays_trans hgg hgx
      wtm_at "go"
      refine l_item (C.tk.of hlf).isList (by decide) (by decide) (v := sV z0) rfl ?_
      wtm_at "go"
      refine l_from ?_ (fun _ _ => rfl)
      wtm_at "go"
      refine ⟨lf, _, 1, _, _, _, _, _, rfl, (C.tk.of hlf).isList, rfl, by rw [List.length_map, List.length_cons]; omega, C.tk, ?_⟩; clear C; intro s u m C
      rw [← List.map_drop, show (z0 :: zr).drop 1 = zr from rfl] at C
      obtain ⟨g8, C, hg8, hm⟩ := C.freeze
      refine it_list C.tk (C.tk.of hm).isList ?_; clear C; intro it s u C
      replace C := C.sel (mu' := [(it, isLI m 0), (ln, isPL (ys.map sV)), (L + 1, isCell (some (.ref tw))), (L + 1 + 1, isCell (some (sV z0)))]) (by wtm_at "sel")
      refine for_loopQ (FirstJ L lf ln pc pu d l c ys (z0 :: zr) (.ref tw) (pullI W (ys.map (·.1))) fun x => tn * (pl x : Nat)) (Src.list fit.hh (OAt.isList hm)) C.tk (.mk (Nat.le_refl _) rfl fun k z hk hz => ?_) ht_name ?_ ?_
      · obtain rfl : k = 0 := by omega
        cases hz
        rw [gtP_no]; omega
      · clear C
        rintro i v g9 s u ls mu E3 Q3 hE hi hv hg9 hJ C
        cases hJ
        rename_i mi q hmi hq hbest
        obtain ⟨z, hz, rfl⟩ : ∃ z, zr[i]? = some z ∧ sV z = v := by
          rw [List.getElem?_map, Option.map_eq_some_iff] at hv; exact hv
        refine a_name ?_
        wtm_at "st"
        refine k_asg ?_ rfl
        refine m_inst (C := 38) (f := 35) B (by kernel_rfl) (by kernel_rfl) (by kernel_rfl) (by kernel_rfl) ?_ rfl rfl rfl rfl rfl
        wtm_at "go"
        have hg9' : g.StaysIn g9 := stays_trans hg7 (stays_trans hg8 hg9)
        refine ⟨c, _, _, _, _, "comp_select_list", .ref sl, rfl, rfl, C.tk, hc.keeps hg9', by decide +kernel, ?_⟩
        wtm_at "go"
        refine l_tuple ?_
        wtm_at "go"
        have hz1 : (z0 :: zr)[i + 1]? = some z := hz
        have hi1 : i + 1 < (z0 :: zr).length := (List.getElem?_eq_some_iff.mp hz1).1
        have hzn : (((z0 :: zr) : List (Str × Tok)).map (·.1)).Nodup := by
          have := (hperm.map (·.1)).nodup_iff.mpr hn
          rw [List.map_append, List.nodup_append] at this
          exact this.2.1
        have inx : ∀ z ∈ z0 :: zr, z ∈ xs ∧ z.1 ∈ xs.map (·.1) ∧ z.1 ∉ ys.map (·.1) := fun z hz => by
          have h := hperm.mem_iff.mp (List.mem_append_right ys hz)
          refine ⟨h, List.mem_map_of_mem h, fun hy => ?_⟩
          have := (hperm.map (·.1)).nodup_iff.mpr hn
          rw [List.map_append, List.nodup_append] at this
          exact this.2.2 _ hy _ (List.mem_map_of_mem hz) rfl
        obtain ⟨hzx, hxz, hyz⟩ := inx z (List.mem_of_getElem? hz1)
        obtain ⟨hqx, hxq, hyq⟩ := inx q (List.mem_of_getElem? hq)
        obtain ⟨jz, hjz⟩ := List.getElem?_of_mem hzx
        obtain ⟨jq, hjq⟩ := List.getElem?_of_mem hqx
        have hplz := hpl jz z hjz
        have hplq := hpl jq q hjq
        have hne : jz ≠ jq := fun e => by
          rw [e, hjq] at hjz
          cases hjz
          have := nodup_at hzn hz1 hq rfl
          omega
        obtain ⟨tpz, hvz⟩ := hplace jz z (List.getElem?_eq_some_iff.mp hjz).1 hjz
        obtain ⟨tpq, hvq⟩ := hplace jq q (List.getElem?_eq_some_iff.mp hjq).1 hjq
        have hg9b : g9.StaysIn g9 := stays_refl _
        have hpc9 : g9.DictOf (strKind prog w) pc kvp := hpc.at ((stays_trans hgx (stays_trans hg8 hg9)) _)
        have hpD9 : g9.DictOf (strKind prog w) pu kvs := hpD.at ((stays_trans hg8 hg9) _)
        refine d_itemS (hpc9.at fun _ e => C.gh _ _ e) hvz ?_; intro m1
        wtm_at "go"
        refine m_args (T := "dict") (id := "dict.get") PySem.F.plainAttrs_dict PySem.F.slot_dict_get PySem.F.type_dict_get ?_ rfl rfl rfl rfl rfl
        wtm_at "go"
        have hD := hpD9.at fun _ e => C.gh _ _ e
        refine ⟨(d_typed hD).1, (d_typed hD).2, ?_⟩
        wtm_at "go"
        refine c_getd hD hpu (strKind_is _ _ z.1 _) ?_
        obtain ⟨tlz, ez⟩ := look_val hAll z.1 (t := _)
        rw [ez, hnum, pull_look hn hxz hyz]; clear ez
        wtm_at "go"
        refine (neg_ct (B.mono C.af.gg)).use fit (by decide) C.tk ?_; clear C
        rintro _ ga s u C hga ⟨tnz, rfl⟩
        wtm_at "go"
        refine ⟨Nat.le_of_ble_eq_true rfl, _, _, _, _, C.tk, ?_⟩; clear C; intro s u T1 C
        obtain ⟨gb, C, hgb, hT1⟩ := C.freeze
        replace hpc9 := hpc9.at ((stays_trans hga hgb) _)
        replace hpD9 := hpD9.at ((stays_trans hga hgb) _)
        replace hg9b := stays_trans hg9b (stays_trans hga hgb)
        clear hga
        wtm_at "go"
        refine l_tuple ?_
        wtm_at "go"
        refine d_itemS (hpc9.at fun _ e => C.gh _ _ e) hvq ?_; intro m1
        wtm_at "go"
        refine m_args (T := "dict") (id := "dict.get") PySem.F.plainAttrs_dict PySem.F.slot_dict_get PySem.F.type_dict_get ?_ rfl rfl rfl rfl rfl
        wtm_at "go"
        have hD := hpD9.at fun _ e => C.gh _ _ e
        refine ⟨(d_typed hD).1, (d_typed hD).2, ?_⟩
        wtm_at "go"
        refine c_getd hD hpu (strKind_is _ _ q.1 _) ?_
        obtain ⟨tlq, eq⟩ := look_val hAll q.1 (t := _)
        rw [eq, hnum, pull_look hn hxq hyq]; clear eq
        wtm_at "go"
        refine (neg_ct (B.mono C.af.gg)).use fit (by decide) C.tk ?_; clear C
        rintro _ ga s u C hga ⟨tnq, rfl⟩
        wtm_at "go"
        refine ⟨Nat.le_of_ble_eq_true rfl, _, _, _, _, C.tk, ?_⟩; clear C; intro s u T2 C
        obtain ⟨gc, C, hgc, hT2⟩ := C.freeze
        replace hT1 := OAt.mono hT1 (stays_trans hga hgc)
        replace hpc9 := hpc9.at ((stays_trans hga hgc) _)
        replace hpD9 := hpD9.at ((stays_trans hga hgc) _)
        replace hg9b := stays_trans hg9b (stays_trans hga hgc)
        clear hga
        wtm_at "go"
        have hg9c := stays_trans hg9' hg9b
        refine (comparePair_ct (B.mono C.af.gg) (hc.keeps hg9c) (hsl.mono hg9c) (h1.mono hg9c) (h2.mono hg9c) hT1 hT2).use fit (by decide) C.tk ?_; clear C
        rintro _ gd s u C hgd ⟨tt, rfl⟩
        have hpick := cmp_pick (a := jz) (b := jq) (p := pullI W (ys.map (·.1)) z.1) (q := pullI W (ys.map (·.1)) q.1) hne htn
        generalize cmpv (ltK jz jq (-pullI W (ys.map (·.1)) z.1) (-pullI W (ys.map (·.1)) q.1)) (gtK jz jq (-pullI W (ys.map (·.1)) z.1) (-pullI W (ys.map (·.1)) q.1)) (-2 * tn) = told at *
        obtain ⟨r, m', hval, hm', hr, hrb⟩ : ∃ r m', valueAt ([(-3, sV z), (-2, sV z), (2, sV q), (3, sV q)] : List (Int × Value)) told = some (sV r) ∧ m' ≤ i + 1 ∧ (z0 :: zr)[m']? = some r ∧ ∀ (k : Nat) z', k ≤ i + 1 → (z0 :: zr)[k]? = some z' → gtP (pullI W (ys.map (·.1)) z'.1) (tn * (pl z'.1 : Nat)) (pullI W (ys.map (·.1)) r.1) (tn * (pl r.1 : Nat)) = false := by
          rw [← hplz, ← hplq] at hpick
          rcases hpick with ⟨h, hb⟩ | ⟨h, hb⟩
          · refine ⟨z, i + 1, by rcases h with rfl | rfl <;> rfl, Nat.le_refl _, hz1, fun k z' hk hz' => ?_⟩
            rcases Nat.lt_or_ge k (i + 1) with h' | h'
            · have := hbest k z' (Nat.le_of_lt_succ h') hz'
              rw [gtP_no] at this hb ⊢
              omega
            · obtain rfl : k = i + 1 := by omega
              rw [hz1] at hz'
              cases hz'
              rw [gtP_no]; omega
          · refine ⟨q, mi, by rcases h with rfl | rfl <;> rfl, Nat.le_succ_of_le hmi, hq, fun k z' hk hz' => ?_⟩
            rcases Nat.lt_or_ge k (i + 1) with h' | h'
            · exact hbest k z' (Nat.le_of_lt_succ h') hz'
            · obtain rfl : k = i + 1 := by omega
              rw [hz1] at hz'
              cases hz'
              exact hb
        wtm_at "go"
        refine e_disp (knd := intKind prog w) B C.tk rfl ?_; clear C; intro s u D hD C
        refine e_pair (M := model prog w) ?_
        wtm_at "go"
        refine e_pair (M := model prog w) ?_
        wtm_at "go"
        refine e_pair (M := model prog w) ?_
        wtm_at "go"
        refine e_pair (M := model prog w) ?_
        wtm_at "go"
        refine e_pairs ?_
        refine ⟨[(-3, sV z), (-2, sV z), (2, sV q), (3, sV q)], ⟨intKind_is _ _ _ _, rfl, intKind_is _ _ _ _, rfl, intKind_is _ _ _ _, rfl, intKind_is _ _ _ _, rfl, trivial⟩, (show ([-3, -2, 2, 3] : List Int).Nodup by decide), C.tk, ?_⟩; clear C; intro s u C
        wtm_at "go"
        refine d_item (OAt.dict (C.my (.head _))) (intKind_is _ _ _ _) hval ?_ (by with_unfolding_all rfl); intro m1
        wtm_at "go"
        refine hE.next (stays_trans hg9b hgd) (C.sel (mu' := [(it, isLI m (i + 1)), (ln, isPL (ys.map sV)), (L + 1, isCell (some (.ref tw))), (L + 1 + 1, isCell (some (sV r)))]) (by wtm_at "sel")) .here (ls' := [("left", .ref lf), ("line", .ref ln), ("places", .ref pc), ("pull", .ref pu), ("rows", .ref d), ("live", .ref l), ("comp", .ref c)]) (by wtm_at "less") (.mk hm' hr hrb)
      · clear C
        rintro g9 s u ls mu E3 hg9 hJ C
        cases hJ
        rename_i mi q hmi hq hbest
        wtm_at "go"
        have hzl : (zr.map sV).length = zr.length := List.length_map ..
        have hm9 : OAt g9 m (isPL (zr.map sV)) := OAt.mono hm hg9
        have hlf9 : OAt g9 lf (isPL ((z0 :: zr).map sV)) := hlf.mono (stays_trans hg8 hg9)
        refine k_expr ?_ (by unfold interactive; rw [H.kind]; rfl) rfl
        refine m_args (T := "list") (id := "list.append") PySem.F.plainAttrs_list PySem.F.slot_list_append PySem.F.type_list_append ?_ rfl rfl rfl rfl rfl
        wtm_at "go"
        have hln : OAt (tk s u).heap ln (isPL (ys.map sV)) := C.my (.head _)
        refine ⟨(Cx.typed hln isPL_typed).1, (Cx.typed hln isPL_typed).2, ?_⟩
        clear hln
        wtm_at "go"
        refine c_append C.tk .here (by rw [List.length_map]; omega) ?_; clear C; intro s u C
        refine ⟨rfl, ?_⟩
        rw [show ys.map sV ++ [sV q] = (ys ++ [q]).map sV by rw [List.map_append]; rfl] at C
        refine k_lcL H (by wtm_at "mem") (by kernel_rfl) Z (CompScope.of (fr := [("first", L + 1 + 1, sV q)]) (ks' := [("name", .local)]) ["first"] rfl (by kernel_rfl) rfl (by kernel_rfl)) (by wtm_at "less") ?_ (fun _ => rfl)
        intro ZC
        wtm_at "go"
        refine it_list C.tk (C.tk.of hlf9).isList ?_; clear C; intro I s u C
        refine lc_store (Src.list fit.hh hlf9.isList) (by rw [List.length_map, List.length_cons]; omega) C.tk H (by wtm_at "mem") (by wtm_at "drop") ZC (frs_of Z (by wtm_at "frs")) (FiltJ (z0 :: zr) q.1) (.mk) ?_ ?_
        · clear C
          intro S' L' cenv D' Q5 K5 H Y j v g10 vs s u E5 hE5 hj hv hg10 hJ C
          dsimp only [cpOf, List.map] at Y
          obtain ⟨z, hz, rfl⟩ : ∃ z, (z0 :: zr)[j]? = some z ∧ sV z = v := by
            rw [List.getElem?_map, Option.map_eq_some_iff] at hv; exact hv
          cases hJ
          wtm_at "st"
          wtm_at "tst"
          wtm_at "go"
          refine ⟨fun hb => ?_, fun hb => ?_⟩
          · have hne : z.1 ≠ q.1 := by simpa using hb
            wtm_at "go"
            refine hE5.made (stays_refl _) C .here .here ?_
            have := FiltJ.mk (zs := z0 :: zr) (x := q.1) (j := j + 1) (g := g10)
            rwa [take_snoc hz, List.filter_append, List.filter_cons_of_pos (by simpa using hne), List.map_append] at this
          · have hne : z.1 = q.1 := by simpa using hb
            refine hE5.skip (stays_refl _) C .here .here ?_
            have := FiltJ.mk (zs := z0 :: zr) (x := q.1) (j := j + 1) (g := g10)
            rwa [take_snoc hz, List.filter_append, List.filter_cons_of_neg (by simpa using hne), List.filter_nil, List.append_nil] at this
        · clear C
          rintro g10 s u lf' vs hg10 hJ C
          rw [List.length_map] at hJ
          cases hJ
          rw [List.take_length] at C
          obtain ⟨g11, C, hg11, hlf'⟩ := C.freeze
          wtm_at "go"
          refine l_list ?_
          wtm_at "go"
          refine ⟨Nat.le_of_ble_eq_true rfl, _, _, _, _, C.tk, ?_⟩; clear C; intro s u b C
          refine c_nempty fit.units (C.tk.of hlf') (C.my (.head _)) ?_
          replace C := C.drop
          have hqm := List.mem_of_getElem? hq
          have hzn : (((z0 :: zr) : List (Str × Tok)).map (·.1)).Nodup := by
            have := (hperm.map (·.1)).nodup_iff.mpr hn
            rw [List.map_append, List.nodup_append] at this
            exact this.2.1
          have hstep := hCd.step hqm fun z hz => by
            obtain ⟨k, hk⟩ := List.getElem?_of_mem hz
            exact hbest k z (by have := (List.getElem?_eq_some_iff.mp hk).1; rw [List.length_cons] at this; rw [hzl]; omega) hk
          have hlz := (filter_perm hzn hqm).length_eq
          have hg11' : g6.StaysIn g11 := stays_trans hgx (stays_trans hg8 (stays_trans hg9 (stays_trans hg10 hg11)))
          have hpD11 : g11.DictOf (strKind prog w) pu kvs := hpD.at ((stays_trans hg8 (stays_trans hg9 (stays_trans hg10 hg11))) _)
          obtain ⟨zs', hzs'⟩ : ∃ zs', zs' = (z0 :: zr).filter (fun z => decide (z.1 ≠ q.1)) := ⟨_, rfl⟩
          rw [← hzs'] at hlf' hstep hlz ⊢
          wtm_at "go"
          refine ⟨fun hb => ?_, fun hb => ?_⟩
          · wtm_at "go"
            have hqx : q ∈ xs := hperm.mem_iff.mp (List.mem_append_right ys hqm)
            obtain ⟨vr, hvr⟩ := valueAt_of_key (kvs := kvr) (x := q.1) (by rw [hkr]; exact List.mem_map_of_mem hqx)
            obtain ⟨rr, kws, rfl, hrr, hrD, hrI, hrN⟩ := hrow _ (valueAt_mem hvr)
            replace hrN : numD kws = rowOf W (xs.map (·.1)) q.1 := hrN
            refine d_itemS (hdD.at fun _ e => C.gh _ _ (hg11' _ _ (hgg _ _ e))) hvr ?_; intro m1
            wtm_at "go"
            have hkl : kvs.length ≤ 400 := by
              have h1 := congrArg List.length hnum
              have h2 := pull_len (W := W) (xs.map (·.1)) (ys.map (·.1))
              rw [numD, List.length_map] at h1
              rw [List.length_map, List.length_map] at h2
              have : ys.length * xs.length ≤ 5 * 5 := Nat.mul_le_mul (by omega) hx
              omega
            have hwl : kws.length ≤ 400 := by
              have h1 := congrArg List.length hrN
              rw [numD, List.length_map] at h1
              unfold rowOf at h1
              rw [List.length_map] at h1
              have h2 := List.length_filter_le (fun y => decide (y ≠ q.1)) (xs.map (·.1))
              rw [List.length_map] at h2
              omega
            refine (callers_ct (B.mono C.af.gg) hpu hpD11 hAll hkl hrr (hrD.at ((stays_trans hgg hg11') _)) hrI hwl).use fit (by decide) C.tk ?_; clear C
            rintro _ g12 s u C hg12 ⟨pu', kvs', rfl, hpu', hpD', hAll', hnum'⟩
            wtm_at "go"
            refine hnext zs'.length _ (by simp only [List.length_cons] at hlz ⊢; omega) (.mk (stays_trans hg11' hg12) hstep (OAt.mono hlf' hg12) hpu' hpD' hAll' (fun _ => ?_) (fun h => ?_) (C.tk.less (by wtm_at "less")))
            · rw [hnum', hnum, hrN, List.map_append]
              exact (pullD_snoc _ _ _).symm
            · rw [h] at hb; exact absurd rfl (of_decide_eq_true hb)
          · have hz0 : zs' = [] := by
              have := of_decide_eq_false hb
              cases zs' with
              | nil => rfl
              | cons a b => exact absurd (List.cons_ne_nil _ _) this
            wtm_at "go"
            refine hnext zs'.length _ (by simp only [List.length_cons] at hlz ⊢; omega) (.mk hg11' hstep hlf' hpu hpD11 hAll (fun h => absurd hz0 h) (fun _ => ?_) C.tk)
            rw [hnum, List.map_append, List.map_singleton, List.dropLast_concat]
    · clear C hlf
      rintro s u hF
      generalize hz0 : 0 = z0 at hF
      cases hF
      rename_i g7 ys zs lf ln pu kvs fv hgx hCd hlf hpu hpD hAll hk1 hk2 C
      obtain rfl : zs = [] := List.length_eq_zero_iff.mp hz0.symm
      wtm_at "go"
      refine l_tuple ?_
      wtm_at "go"
      refine ⟨Nat.le_of_ble_eq_true rfl, _, _, _, _, C.tk, ?_⟩; clear C; intro s u T C
      obtain ⟨g8, C, hg8, hT⟩ := C.freeze
      obtain ⟨g9, C, hg9, hln⟩ := C.freeze
      exact hQ _ _ _ (ret _ _ _ C.tk.af ⟨T, ln, pu, ys, kvs, rfl, OAt.mono hT hg9, hln, hCd, hpu, hpD.at ((stays_trans hg8 hg9) _), hAll, hk2 rfl⟩)
end
section
variable {W : Str → Str → Int}
theorem row_look {x c : Str} : ∀ {names : List Str}, x ∈ names → x ≠ c → lookI (rowOf W names c) x = W c x
  | y :: r, hx, hc => by
    unfold rowOf
    by_cases hy : y = c
    · rw [List.filter_cons_of_neg (by simp [hy])]
      rcases List.mem_cons.mp hx with e | hx
      · exact absurd (e.trans hy) hc
      · exact row_look hx hc
    · rw [List.filter_cons_of_pos (by simp [hy]), List.map_cons, lookI_cons]
      by_cases h : y = x
      · rw [if_pos h, h]
      · rw [if_neg h]
        rcases List.mem_cons.mp hx with e | hx
        · exact absurd e.symm h
        · exact row_look hx hc
theorem row_val {prog : Program} {w : World} {h : Heap} {names : List Str} {c x : Str} {v : Value} (r : IsRow prog w h (rowOf W names c) v) (hx : x ∈ names) (hc : x ≠ c) : ∃ d kws t, v = .ref d ∧ h.DictOf (strKind prog w) d kws ∧ valueAt kws x = some (.int (W c x) t) := by
  obtain ⟨d, kws, rfl, _, hD, hI, hN⟩ := r
  obtain ⟨t, ht⟩ := look_some hI (x := x) (by rw [hN]; exact row_key hx hc)
  rw [hN, row_look hx hc] at ht
  exact ⟨d, kws, t, rfl, hD, ht⟩
theorem row_snoc {names : List Str} {c b : Str} (hb : b ≠ c) : rowOf W (names ++ [b]) c = rowOf W names c ++ [(b, W c b)] := by
  unfold rowOf
  rw [List.filter_append, List.map_append, List.filter_cons_of_pos (by simpa using hb)]; rfl
theorem row_self {names : List Str} {b : Str} (hb : b ∉ names) : rowOf W (names ++ [b]) b = names.map fun y => (y, W b y) := by
  unfold rowOf
  rw [List.filter_append, List.filter_cons_of_neg (by simp), List.filter_nil, List.append_nil, List.filter_eq_self.mpr fun y hy => by
    have : y ≠ b := fun e => hb (e ▸ hy)
    simpa using this]
end
theorem nsys {K : Frag} {p : Par} {g : Heap} {s : Shared} {ls : List Loc} {mu : List Own} {D : Addr} (B : Base K p.G) (C : Cx p g s ls mu) (h : s.heap.objs.size ≤ D) : (D == sysModules) = false :=
  beq_eq_false_iff_ne.mpr (Nat.ne_of_gt (Nat.lt_of_lt_of_le (base_size ((B.mono C.af.gg).mono C.gh)) h))
inductive TiesJ (f : Str → Int) : List Str → List (Str × Value) → Prop
  | mk {l : List Str} {kws : List (Str × Value)} : AllI kws → numD kws = l.map (fun y => (y, f y)) → TiesJ f l kws
theorem TiesJ.snoc {f : Str → Int} {l : List Str} {kws : List (Str × Value)} {x : Str} {k : Int} {t : Tok} (h : TiesJ f l kws) (hx : x ∉ l) (e : k = f x) : TiesJ f (l ++ [x]) (stored kws x (.int k t)) := by
  obtain ⟨h1, h2⟩ := h
  have hnone : valueAt kws x = none := valueAt_none_of_not_mem (by
    intro hm
    have e1 : kws.map (·.1) = (numD kws).map (·.1) := by unfold numD; rw [List.map_map]; rfl
    rw [e1, h2, List.map_map] at hm
    obtain ⟨y, hy, rfl⟩ := List.mem_map.mp hm
    exact hx hy)
  refine ⟨allI_stored h1, ?_⟩
  rw [stored_new hnone, ints_append, h2, List.map_append, e]; rfl
inductive JoinJ (prog : Program) (w : World) (L d o t jd : Addr) (W : Str → Str → Int) (os : List (Str × Tok)) (x y b : Str) (tx ty tb : Tok) : Nat → Heap → List Loc → List Own → Prop
  | mk {i : Nat} {g : Heap} {kvs : List (Str × Value)} {nv : Option Value} : RowsOf prog w g W (os.map (·.1) ++ [b]) ((os.take i).map (·.1)) kvs →
      JoinJ prog w L d o t jd W os x y b tx ty tb i g [("told", .ref t), ("others", .ref o), ("before", .str x tx), ("last", .str y ty), ("both", .str b tb)] [(t, isDk (strKind prog w) kvs), (L + 1, isCell (some (.ref d))), (L + 1 + 1, isCell (some (.ref jd))), (L + 1 + 1 + 1, isCell nv)]
section
variable {prog : Program} {w : World} {g : Heap} {d o : Addr} {os : List (Str × Tok)} {names : List Str} {W : Str → Str → Int} {x y b : Str} {tx ty tb : Tok}
set_option maxHeartbeats 0 in
theorem joined_ct (B : Base (KK w) g) (hd : RowsAt prog w g d names W) (ho : OAt g o (isPL (os.map sV))) (hnl : names.length ≤ 5) (hos : os.length ≤ 5) (hnd : (os.map (·.1)).Nodup) (hn : names.Nodup) (hsub : ∀ q ∈ os, q.1 ∈ names) (hx : x ∈ names) (hy : y ∈ names)
    (hxo : ∀ q ∈ os, q.1 ≠ x) (hyo : ∀ q ∈ os, q.1 ≠ y) (hbo : ∀ q ∈ os, q.1 ≠ b) (hW1 : ∀ q ∈ os, W q.1 b = W q.1 x + W q.1 y) (hW2 : ∀ q ∈ os, W b q.1 = W x q.1 + W y q.1) :
    Ct prog w 2 g (.ref 155) [.ref d, .ref o, .str x tx, .str y ty, .str b tb] (fun g' v => ∃ r, v = .ref r ∧ RowsAt prog w g' r (os.map (·.1) ++ [b]) W) := by
  intro A s₀ Q E fit hg ret
  obtain ⟨hd0, kvr, hdD, hkr, hrow⟩ := hd
  refine enterC (binds := [("rows", .ref d), ("others", .ref o), ("before", .str x tx), ("last", .str y ty), ("both", .str b tb)]) (bl := [("others", .ref o), ("before", .str x tx), ("last", .str y ty), ("both", .str b tb)]) (cs := [("rows", some (.ref d)), ("joined", none), ("name", none)])
    (ks := [("others", .local), ("before", .local), ("last", .local), ("both", .local), ("told", .local), ("add_callers", .globalImplicit), ("add", .globalImplicit)])
    fit B hg rfl (by kernel_rfl) rfl (by kernel_rfl) (by kernel_rfl) (by kernel_rfl) (by kernel_rfl) (by kernel_rfl) (by kernel_rfl) (by kernel_rfl) rfl rfl rfl ?_
  intro A' env L s u QQ EE hQ _ fit H Z C
  dsimp only [cellAdr, cellOwn] at Z C
  have rowlen : ∀ {c : Str} {kws : List (Str × Value)}, numD kws = rowOf W names c → kws.length ≤ 400 := fun {c kws} e => by
    have h1 := congrArg List.length e
    rw [numD, List.length_map] at h1
    unfold rowOf at h1
    rw [List.length_map] at h1
    have h2 := List.length_filter_le (fun y => decide (y ≠ c)) names
    omega
  have rowlen' : ∀ {c : Str} {f : Str → Int} {kws : List (Str × Value)}, numD kws = ((os.map (·.1)).filter (· ≠ c)).map (fun y => (y, f y)) → kws.length ≤ 400 := fun {c f kws} e => by
    have h1 := congrArg List.length e
    rw [numD, List.length_map, List.length_map] at h1
    have h2 := List.length_filter_le (fun y => decide (y ≠ c)) (os.map (·.1))
    rw [List.length_map] at h2
    omega
  have rowat : ∀ {c : Str}, c ∈ names → ∃ v, valueAt kvr c = some v ∧ IsRow prog w g (rowOf W names c) v := fun {c} hc => by
    obtain ⟨v, hv⟩ := valueAt_of_key (kvs := kvr) (x := c) (by rw [hkr]; exact hc)
    exact ⟨v, hv, hrow _ (valueAt_mem hv)⟩
  obtain ⟨vx, hvx, rx, kwx, rfl, hrx, hDx, hIx, hNx⟩ := rowat hx
  obtain ⟨vy, hvy, ry, kwy, rfl, hry, hDy, hIy, hNy⟩ := rowat hy
  wtm_at "go"
  refine d_itemS (hdD.at fun _ e => C.gh _ _ e) hvx ?_; intro m1
  wtm_at "go"
  refine d_itemS (hdD.at fun _ e => C.gh _ _ e) hvy ?_; intro m1
  wtm_at "go"
  refine (callers_ct (B.mono C.af.gg) hrx hDx hIx (rowlen hNx) hry hDy hIy (rowlen hNy)).use fit (by decide) C.tk ?_; clear C
  rintro _ g1 s u C hg1 ⟨jd, kwj, rfl, hjd, hDj, hIj, hNj⟩
  wtm_at "go"
  refine d_new B C.tk (strKind prog w) ?_; clear C; intro s u t ht C
  wtm_at "go"
  refine it_list C.tk (C.tk.of (ho.mono hg1)).isList ?_; clear C; intro it s u C
  replace C := C.sel (mu' := [(it, isLI o 0), (t, isDk (strKind prog w) []), (L + 1, isCell (some (.ref d))), (L + 1 + 1, isCell (some (.ref jd))), (L + 1 + 1 + 1, isCell none)]) (by wtm_at "sel")
  refine for_loopQ (JoinJ prog w L d o t jd W os x y b tx ty tb) (Src.list fit.hh (ho.mono hg1).isList) C.tk (.mk ⟨rfl, fun _ h => by cases h⟩) ht_name ?_ ?_
  · clear C
    rintro i v g2 s u ls mu E' Q1 hE hi hv hg2 hJ C
    cases hJ
    rename_i kvs nv hkvs
    obtain ⟨q, hq, rfl⟩ : ∃ q, os[i]? = some q ∧ sV q = v := by
      rw [List.getElem?_map, Option.map_eq_some_iff] at hv; exact hv
    have hqo := List.mem_of_getElem? hq
    have hqn := hsub q hqo
    have hg2' : g.StaysIn g2 := stays_trans hg1 hg2
    obtain ⟨vq, hvq, hrq⟩ := rowat hqn
    refine a_name ?_
    wtm_at "go"
    refine e_dc Z (CompScope.of (fr := [("name", L + 1 + 1 + 1, sV q), ("rows", L + 1, .ref d)]) (ks' := [("other", .local)]) ["name", "rows"] rfl (by kernel_rfl) rfl (by kernel_rfl)) (by wtm_at "less") ?_ (fun _ => rfl)
    intro ZC
    wtm_at "go"
    refine it_list C.tk (C.tk.of (ho.mono hg2')).isList ?_; clear C; intro I s u C
    have hsys := fun D => nsys (D := D) B C
    refine dc_plain (strKind prog w) (Src.list fit.hh (ho.mono hg2').isList) (by rw [List.length_map]; omega) C.tk H ZC (frs_of Z (by wtm_at "frs")) (fun j _ kws => TiesJ (W q.1) (((os.take j).map (·.1)).filter (· ≠ q.1)) kws) ⟨(fun _ h => by cases h), rfl⟩ ?_ ?_
    · clear C
      intro S' L' cenv D' Q2 K2 H Y j v g3 kws s u E2 hE2 hj hv hg3 hJ C
      dsimp only [cpOf, List.map] at Y
      obtain ⟨z, hz, rfl⟩ : ∃ z, os[j]? = some z ∧ sV z = v := by
        rw [List.getElem?_map, Option.map_eq_some_iff] at hv; exact hv
      have hzn := hsub z (List.mem_of_getElem? hz)
      wtm_at "st"
      wtm_at "tst"
      wtm_at "go"
      refine ⟨fun hb => ?_, fun hb => ?_⟩
      · have hne : z.1 ≠ q.1 := by simpa using hb
        wtm_at "go"
        have hgx := stays_trans hg2' hg3
        refine d_itemS (hdD.at fun _ e => C.gh _ _ (hgx _ _ e)) hvq ?_; intro m1
        obtain ⟨rq, kwq, tq, rfl, hDq, hvz⟩ := row_val hrq hzn hne
        wtm_at "go"
        refine d_itemS (hDq.at fun _ e => C.gh _ _ (hgx _ _ e)) hvz ?_; intro m2
        refine hE2.made (strKind_is _ _ z.1 _) (stays_refl _) C.tk .here .here ?_
        rw [take_snoc hz, List.map_append, List.filter_append, List.map_singleton, List.filter_cons_of_pos (by simpa using hne), List.filter_nil]
        refine hJ.snoc (fun h => ?_) rfl
        obtain ⟨q', h1, h2⟩ := List.mem_map.mp (List.mem_filter.mp h).1
        obtain ⟨m, h3⟩ := List.getElem?_of_mem h1
        rw [List.getElem?_take] at h3
        split at h3
        · rename_i h4
          exact absurd (nodup_at hnd h3 hz h2) (Nat.ne_of_lt h4)
        · cases h3
      · have hne : z.1 = q.1 := by simpa using hb
        refine hE2.skip (stays_refl _) C.tk .here .here ?_
        rw [take_snoc hz, List.map_append, List.filter_append, List.map_singleton, List.filter_cons_of_neg (by simpa using hne), List.filter_nil, List.append_nil]
        exact hJ
    · clear C
      intro g3 s u D kws hsz hg3 hJ C
      rw [List.length_map, List.take_length] at hJ
      have hD0 := hsys D hsz
      have hgx := stays_trans hg2' hg3
      have hnone : valueAt kvs q.1 = none := valueAt_none_of_not_mem (by
        rw [hkvs.1]
        intro h
        obtain ⟨q', h1, h2⟩ := List.mem_map.mp h
        obtain ⟨m, h3⟩ := List.getElem?_of_mem h1
        rw [List.getElem?_take] at h3
        split at h3
        · rename_i h4
          exact absurd (nodup_at hnd h3 hq h2) (Nat.ne_of_lt h4)
        · cases h3)
      have hkl : kvs.length ≤ 5 := by
        have := congrArg List.length hkvs.1
        rw [List.length_map, List.length_map, List.length_take] at this
        omega
      have hwl : kws.length ≤ 400 := by
        obtain ⟨_, h⟩ := hJ
        exact rowlen' h
      wtm_at "go"
      refine d_set C.tk (by wtm_at "pick") (strKind_is _ _ q.1 _) (by omega) ?_; clear C; intro s u C
      rw [stored_new hnone] at C
      wtm_at "go"
      obtain ⟨rq, kwq, tq, hvr, hDq, hvqx⟩ := row_val hrq hx (Ne.symm (hxo q hqo))
      obtain ⟨rq', kwq', tq', hvr', hDq', hvqy⟩ := row_val hrq hy (Ne.symm (hyo q hqo))
      refine d_itemS (hdD.at fun _ e => C.gh _ _ (hgx _ _ e)) hvq ?_; intro m1
      rw [hvr]
      wtm_at "go"
      refine d_itemS (hDq.at fun _ e => C.gh _ _ (hgx _ _ e)) hvqx ?_; intro m2
      wtm_at "go"
      refine d_itemS (hdD.at fun _ e => C.gh _ _ (hgx _ _ e)) hvq ?_; intro m1
      rw [hvr']
      wtm_at "go"
      refine d_itemS (hDq'.at fun _ e => C.gh _ _ (hgx _ _ e)) hvqy ?_; intro m2
      wtm_at "go"
      refine (add_ct (B.mono C.af.gg)).use fit (by decide) C.tk ?_; clear C
      rintro _ g4 s u C hg4 ⟨ta, rfl⟩
      wtm_at "go"
      refine d_itemS (OAt.dict (C.my (.head _))) (valueAt_new hnone) ?_; intro m3
      wtm_at "go"
      refine d_set C.tk (by wtm_at "pick") (strKind_is _ _ b _) (by omega) ?_; clear C; intro s u C
      obtain ⟨g5, C, hg5, hO⟩ := C.freeze
      wtm_at "go"
      refine hE.next (stays_trans hg3 (stays_trans hg4 hg5)) (C.sel (mu' := [(it, isLI o (i + 1)), (t, isDk (strKind prog w) (kvs ++ [(q.1, _)])), (L + 1, isCell (some (.ref d))), (L + 1 + 1, isCell (some (.ref jd))), (L + 1 + 1 + 1, isCell (some (sV q)))]) (by wtm_at "sel")) .here (ls' := [("told", .ref t), ("others", .ref o), ("before", .str x tx), ("last", .str y ty), ("both", .str b tb)]) (by wtm_at "less") (.mk ?_)
      rw [take_snoc hq, List.map_append]
      refine hkvs.snoc (stays_trans hg3 (stays_trans hg4 hg5)) ⟨D, _, rfl, hD0, OAt.dict hO, ?_⟩
      obtain ⟨h1, h2⟩ := hJ.snoc (x := b) (fun h => by
        obtain ⟨q', h1, h2⟩ := List.mem_map.mp (List.mem_filter.mp h).1
        exact hbo q' h1 h2) (hW1 q hqo).symm
      refine ⟨h1, h2.trans ?_⟩
      rw [row_snoc (Ne.symm (hbo q hqo)), List.map_append]; rfl
  · clear C
    rintro g2 s u ls mu E' hg2 hJ C
    cases hJ
    rename_i kvs nv hkvs
    wtm_at "go"
    have hg2' : g.StaysIn g2 := stays_trans hg1 hg2
    have hkv := hkvs.1
    rw [List.length_map, List.take_length] at hkvs
    refine e_dc Z (CompScope.of (fr := [("joined", L + 1 + 1, .ref jd)]) (ks' := [("other", .local)]) ["joined"] rfl (by kernel_rfl) rfl (by kernel_rfl)) (by wtm_at "less") ?_ (fun _ => rfl)
    intro ZC
    wtm_at "go"
    refine it_list C.tk (C.tk.of (ho.mono hg2')).isList ?_; clear C; intro I s u C
    have hsys := fun D => nsys (D := D) B C
    refine dc_plain (strKind prog w) (Src.list fit.hh (ho.mono hg2').isList) (by rw [List.length_map]; omega) C.tk H ZC (frs_of Z (by wtm_at "frs")) (fun j _ kws => TiesJ (W b) ((os.take j).map (·.1)) kws) ⟨(fun _ h => by cases h), rfl⟩ ?_ ?_
    · clear C
      intro S' L' cenv D' Q2 K2 H Y j v g3 kws s u E2 hE2 hj hv hg3 hJ C
      dsimp only [cpOf, List.map] at Y
      obtain ⟨z, hz, rfl⟩ : ∃ z, os[j]? = some z ∧ sV z = v := by
        rw [List.getElem?_map, Option.map_eq_some_iff] at hv; exact hv
      have hzo := List.mem_of_getElem? hz
      have hzn := hsub z hzo
      obtain ⟨tz, hvz⟩ := look_some hIj (x := z.1) (by rw [hNj, keyIn_addC, hNx, row_key hzn (hxo z hzo)]; rfl)
      rw [hNj, lookI_addC, hNx, hNy, row_look hzn (hxo z hzo), row_at hn hzn (hyo z hzo), ← hW2 z hzo] at hvz
      wtm_at "st"
      wtm_at "tst"
      wtm_at "go"
      refine d_itemS (hDj.at fun _ e => C.gh _ _ (hg3 _ _ (hg2 _ _ e))) hvz ?_; intro m2
      refine hE2.made (strKind_is _ _ z.1 _) (stays_refl _) C.tk .here .here ?_
      rw [take_snoc hz, List.map_append]
      refine hJ.snoc (fun h => ?_) rfl
      obtain ⟨q', h1, h2⟩ := List.mem_map.mp h
      obtain ⟨m, h3⟩ := List.getElem?_of_mem h1
      rw [List.getElem?_take] at h3
      split at h3
      · rename_i h4
        exact absurd (nodup_at hnd h3 hz h2) (Nat.ne_of_lt h4)
      · cases h3
    · clear C
      intro g3 s u D kws hsz hg3 hJ C
      rw [List.length_map, List.take_length] at hJ
      have hD0 := hsys D hsz
      obtain ⟨g4, C, hg4, hO⟩ := C.freeze
      have hnone : valueAt kvs b = none := valueAt_none_of_not_mem (by
        rw [hkvs.1]
        intro h
        obtain ⟨q', h1, h2⟩ := List.mem_map.mp h
        exact hbo q' h1 h2)
      have hkl : kvs.length ≤ 5 := by
        have := congrArg List.length hkvs.1
        rw [List.length_map, List.length_map] at this
        omega
      wtm_at "go"
      refine d_set C.tk (by wtm_at "pick") (strKind_is _ _ b _) (by omega) ?_; clear C; intro s u C
      rw [stored_new hnone] at C
      obtain ⟨g5, C, hg5, hT⟩ := C.freeze
      wtm_at "go"
      refine hQ _ _ _ (ret _ _ _ C.tk.af ⟨t, rfl, ht, _, OAt.dict hT, (hkvs.snoc (stays_trans hg3 hg4) ⟨D, kws, rfl, hD0, OAt.dict hO, ?_⟩).mono hg5⟩)
      obtain ⟨h1, h2⟩ := hJ
      refine ⟨h1, h2.trans (row_self fun h => ?_).symm⟩
      obtain ⟨q', h1, h2⟩ := List.mem_map.mp h
      exact hbo q' h1 h2
end
def sm : Nat → (Nat → Int) → Int
  | 0, _ => 0
  | n + 1, f => sm n f + f n
theorem sm_congr {f g : Nat → Int} : ∀ (n : Nat), (∀ i < n, f i = g i) → sm n f = sm n g
  | 0, _ => rfl
  | n + 1, h => by rw [sm, sm, sm_congr n fun i hi => h i (Nat.lt_succ_of_lt hi), h n (Nat.lt_succ_self n)]
theorem sm_add {f g : Nat → Int} : ∀ (n : Nat), sm n (fun i => f i + g i) = sm n f + sm n g
  | 0 => rfl
  | n + 1 => by rw [sm, sm, sm, sm_add n]; omega
theorem sm_mul {f : Nat → Int} {c : Int} : ∀ (n : Nat), sm n (fun i => c * f i) = c * sm n f
  | 0 => (Int.mul_zero c).symm
  | n + 1 => by rw [sm, sm, sm_mul n, Int.mul_add]
theorem sm_zero : ∀ (n : Nat), sm n (fun _ => 0) = 0
  | 0 => rfl
  | n + 1 => by rw [sm, sm_zero n]; rfl
theorem sm_pos {f : Nat → Int} : ∀ (n : Nat), (∀ i < n, 0 ≤ f i) → 0 ≤ sm n f
  | 0, _ => Int.le_refl 0
  | n + 1, h => by
    have h1 := sm_pos n fun i hi => h i (Nat.lt_succ_of_lt hi)
    have h2 := h n (Nat.lt_succ_self n)
    rw [sm]; omega
theorem sm_swap {f : Nat → Nat → Int} {m : Nat} : ∀ (n : Nat), sm n (fun i => sm m (f i)) = sm m fun j => sm n fun i => f i j
  | 0 => (sm_zero m).symm
  | n + 1 => by
    rw [sm, sm_swap n, ← sm_add]; rfl
/-- the ties between two sides -/
def wf (T : Nat → Nat → Int) (f g : Nat → Int) : Int := sm 5 fun i => sm 5 fun j => f i * (g j * T i j)
section
variable {T : Nat → Nat → Int} {f f' g g' : Nat → Int}
theorem wf_congr (hf : ∀ i < 5, f i = f' i) (hg : ∀ i < 5, g i = g' i) : wf T f g = wf T f' g' := sm_congr 5 fun i hi => sm_congr 5 fun j hj => by rw [hf i hi, hg j hj]
theorem wf_add : wf T (fun i => f i + f' i) g = wf T f g + wf T f' g := by
  unfold wf
  rw [← sm_add]
  exact sm_congr 5 fun i _ => by rw [← sm_add]; exact sm_congr 5 fun j _ => Int.add_mul _ _ _
theorem wf_smul {c : Int} : wf T (fun i => c * f i) g = c * wf T f g := by
  unfold wf
  rw [← sm_mul]
  exact sm_congr 5 fun i _ => by rw [← sm_mul]; exact sm_congr 5 fun j _ => Int.mul_assoc _ _ _
theorem wf_symm (hT : ∀ i j, T i j = T j i) : wf T f g = wf T g f := by
  unfold wf
  rw [sm_swap]
  exact sm_congr 5 fun i _ => sm_congr 5 fun j _ => by rw [hT j i, Int.mul_left_comm]
theorem wf_pos (h0 : ∀ i j, 0 ≤ T i j) (hf : ∀ i < 5, 0 ≤ f i) (hg : ∀ i < 5, 0 ≤ g i) : 0 ≤ wf T f g := sm_pos 5 fun i hi => sm_pos 5 fun j hj => Int.mul_nonneg (hf i hi) (Int.mul_nonneg (hg j hj) (h0 i j))
theorem wf_zero : wf T (fun _ => 0) g = 0 := (sm_congr 5 fun i _ => (sm_congr 5 fun j _ => Int.zero_mul _).trans (sm_zero 5)).trans (sm_zero 5)
theorem wf_add_r (hT : ∀ i j, T i j = T j i) : wf T f (fun i => g i + g' i) = wf T f g + wf T f g' := by
  rw [wf_symm hT, wf_add, wf_symm hT (f := g), wf_symm hT (f := g')]
theorem wf_smul_r (hT : ∀ i j, T i j = T j i) {c : Int} : wf T f (fun i => c * g i) = c * wf T f g := by
  rw [wf_symm hT, wf_smul, wf_symm hT (f := g)]
/-- what two sides cut, and both together -/
theorem cut_two (hT : ∀ i j, T i j = T j i) : wf T f (fun i => 1 - f i) + wf T g (fun i => 1 - g i) - wf T (fun i => f i + g i) (fun i => 1 - (f i + g i)) = 2 * wf T f g := by
  have e1 : wf T f (fun i => 1 - f i) = wf T f (fun i => 1 - (f i + g i)) + wf T f g := by
    rw [← wf_add_r hT]; exact wf_congr (fun _ _ => rfl) fun i _ => by omega
  have e2 : wf T g (fun i => 1 - g i) = wf T g (fun i => 1 - (f i + g i)) + wf T g f := by
    rw [← wf_add_r hT]; exact wf_congr (fun _ _ => rfl) fun i _ => by omega
  rw [e1, e2, wf_add, wf_symm hT (f := g) (g := f)]; omega
/-- the cut of the phase: five sides, the last called parted as cheaply by itself alone as by any side that the one before isn't on -/
theorem phase (hT : ∀ i j, T i j = T j i) (h0 : ∀ i j, 0 ≤ T i j) {a b c d e : Nat → Int} (pa : ∀ i < 5, 0 ≤ a i) (pb : ∀ i < 5, 0 ≤ b i) (pc : ∀ i < 5, 0 ≤ c i) (pd : ∀ i < 5, 0 ≤ d i) (pe : ∀ i < 5, 0 ≤ e i)
    (h1 : ∀ i < 5, a i + b i + c i + d i + e i = 1) (o2 : wf T a c ≤ wf T a b) (o3 : wf T a d ≤ wf T a b) (o4 : wf T a e ≤ wf T a b) (o5 : wf T a d + wf T b d ≤ wf T a c + wf T b c) (o6 : wf T a e + wf T b e ≤ wf T a c + wf T b c)
    (o7 : wf T a e + wf T b e + wf T c e ≤ wf T a d + wf T b d + wf T c d) {x y z : Int} (hx : x = 0 ∨ x = 1) (hy : y = 0 ∨ y = 1) (hz : z = 0 ∨ z = 1) (hf : ∀ i < 5, f i = e i + (x * a i + (y * b i + z * c i))) :
    wf T a e + wf T b e + wf T c e + wf T d e ≤ wf T f (fun i => 1 - f i) := by
  have ef : wf T f (fun i => 1 - f i) = wf T (fun i => e i + (x * a i + (y * b i + z * c i))) (fun i => d i + ((1 - x) * a i + ((1 - y) * b i + (1 - z) * c i))) :=
    wf_congr hf fun i hi => by rw [hf i hi, Int.sub_mul, Int.sub_mul, Int.sub_mul]; have := h1 i hi; omega
  rw [ef]
  simp only [wf_add, wf_smul, wf_add_r hT, wf_smul_r hT]
  rw [wf_symm hT (f := e) (g := d), wf_symm hT (f := e) (g := a), wf_symm hT (f := e) (g := b), wf_symm hT (f := e) (g := c), wf_symm hT (f := b) (g := a), wf_symm hT (f := c) (g := a), wf_symm hT (f := c) (g := b)]
  have q1 := wf_pos h0 pa pb; have q2 := wf_pos h0 pa pc; have q3 := wf_pos h0 pa pd; have q4 := wf_pos h0 pa pe
  have q5 := wf_pos h0 pb pc; have q6 := wf_pos h0 pb pd; have q7 := wf_pos h0 pb pe; have q8 := wf_pos h0 pc pd; have q9 := wf_pos h0 pc pe; have q0 := wf_pos h0 pd pe
  generalize wf T a b = ab at *; generalize wf T a c = ac at *; generalize wf T a d = ad at *; generalize wf T a e = ae at *
  generalize wf T b c = bc at *; generalize wf T b d = bd at *; generalize wf T b e = be at *; generalize wf T c d = cd at *; generalize wf T c e = ce at *; generalize wf T d e = de at *
  generalize wf T a a = aa; generalize wf T b b = bb; generalize wf T c c = cc
  clear ef hf h1 pa pb pc pd pe
  rcases hx with rfl | rfl <;> rcases hy with rfl | rfl <;> rcases hz with rfl | rfl <;> omega
end
/-- a figure of a side, told in Nat -/
def bN (m i : Nat) : Nat := m / 2 ^ i % 2
def be (m i : Nat) : Int := (bN m i : Nat)
theorem bN_two (m i : Nat) : bN m i < 2 := Nat.mod_lt _ (by decide)
def add5 : Bool := (List.range 32).all fun m => (List.range 32).all fun n => (!(List.range 5).all fun i => Nat.ble (bN m i + bN n i) 1) || (Nat.blt (m + n) 32 && (List.range 5).all fun i => Nat.beq (bN (m + n) i) (bN m i + bN n i))
theorem add5_ok : add5 = true := by decide +kernel
theorem bits_add {m n : Nat} (hm : m < 32) (hn : n < 32) (h : ∀ i < 5, bN m i + bN n i ≤ 1) : m + n < 32 ∧ ∀ i < 5, bN (m + n) i = bN m i + bN n i := by
  have h1 := List.all_eq_true.mp (List.all_eq_true.mp add5_ok m (List.mem_range.mpr hm)) n (List.mem_range.mpr hn)
  have h2 : ((List.range 5).all fun i => Nat.ble (bN m i + bN n i) 1) = true := List.all_eq_true.mpr fun i hi => Nat.ble_eq_true_of_le (h i (List.mem_range.mp hi))
  rw [h2, Bool.not_true, Bool.false_or, Bool.and_eq_true] at h1
  exact ⟨Nat.le_of_ble_eq_true h1.1, fun i hi => Nat.eq_of_beq_eq_true (List.all_eq_true.mp h1.2 i (List.mem_range.mpr hi))⟩
def bsum (L : List Nat) (i : Nat) : Nat := (L.map (bN · i)).sum
theorem bits_sum : ∀ (L : List Nat), (∀ m ∈ L, m < 32) → (∀ i < 5, bsum L i ≤ 1) → L.sum < 32 ∧ ∀ i < 5, bN L.sum i = bsum L i
  | [], _, _ => ⟨by decide, by decide⟩
  | m :: L, hm, h => by
    have e : ∀ i, bsum (m :: L) i = bN m i + bsum L i := fun i => by unfold bsum; rw [List.map_cons, List.sum_cons]
    obtain ⟨h1, h2⟩ := bits_sum L (fun x hx => hm x (.tail _ hx)) fun i hi => by have := h i hi; rw [e] at this; omega
    obtain ⟨h3, h4⟩ := bits_add (hm m (.head _)) h1 fun i hi => by rw [h2 i hi, ← e]; exact h i hi
    rw [List.sum_cons]
    exact ⟨h3, fun i hi => by rw [h4 i hi, h2 i hi, e]⟩
theorem bits_rest : ∀ m < 32, ∀ i < 5, bN (31 - m) i = 1 - bN m i := by decide +kernel
theorem bits_self : ∀ m < 32, m ≠ 0 → ∃ i, i < 5 ∧ bN m i ≠ 0 := by
  have h : ∀ m < 32, m = 0 ∨ bN m 0 ≠ 0 ∨ bN m 1 ≠ 0 ∨ bN m 2 ≠ 0 ∨ bN m 3 ≠ 0 ∨ bN m 4 ≠ 0 := by decide +kernel
  intro m hm h0
  rcases h m hm with e | e | e | e | e | e
  · exact absurd e h0
  · exact ⟨0, by decide, e⟩
  · exact ⟨1, by decide, e⟩
  · exact ⟨2, by decide, e⟩
  · exact ⟨3, by decide, e⟩
  · exact ⟨4, by decide, e⟩
theorem bits_one : ∀ j < 5, ∀ i < 5, bN (2 ^ j) i = if i = j then 1 else 0 := by decide +kernel
theorem bit_be (m : Nat) (hm : m < 32) (k : Nat) (hk : k < 5) : bitI (m : Nat) k = be m k := by
  unfold bitI be bN
  rw [bitc _ k hk]
  have : cm ((m : Nat) : Int) = m := by unfold cm; omega
  rw [this]
theorem be_two (m i : Nat) : be m i = 0 ∨ be m i = 1 := by
  have := bN_two m i
  unfold be; omega
section
variable {T : Nat → Nat → Int}
theorem innr_sm {m n : Nat} (hm : m < 32) (hn : n < 5) (hT : ∀ i j, T i j = T j i) : ∀ (k : Nat), k ≤ 5 → innr T n m k = sm k fun j => be m j * ((1 - be m n) * T j n) + be m n * ((1 - be m j) * T n j)
  | 0, _ => rfl
  | k + 1, hk => by
    rw [innr, sm, innr_sm hm hn hT k (Nat.le_of_succ_le hk), bit_be m hm n hn, bit_be m hm k hk, hT k n]
    congr 1
    rcases be_two m n with e | e <;> rcases be_two m k with e' | e' <;> rw [e, e'] <;> simp
theorem outr_sm {m : Nat} (hm : m < 32) (hT : ∀ i j, T i j = T j i) : ∀ (n : Nat), n ≤ 5 → outr T m n = sm n fun i => sm n fun j => be m i * ((1 - be m j) * T i j)
  | 0, _ => rfl
  | n + 1, hn => by
    rw [outr, outr_sm hm hT n (Nat.le_of_succ_le hn), innr_sm hm hn hT n (Nat.le_of_succ_le hn), sm_add]
    have e : be m n * ((1 - be m n) * T n n) = 0 := by rcases be_two m n with e | e <;> rw [e] <;> simp
    rw [sm, sm, e]
    have e2 : sm n (fun i => sm (n + 1) fun j => be m i * ((1 - be m j) * T i j)) = sm n (fun i => sm n fun j => be m i * ((1 - be m j) * T i j)) + sm n fun i => be m i * ((1 - be m n) * T i n) := by
      rw [← sm_add]; rfl
    rw [e2]; omega
/-- what a side cuts -/
theorem outr_wf {m : Nat} (hm : m < 32) (hT : ∀ i j, T i j = T j i) : outr T (m : Nat) 5 = wf T (be m) fun i => 1 - be m i := outr_sm hm hT 5 (Nat.le_refl 5)
theorem at32_wf {cu : List (Int × Tok)} (hT : ∀ i j, T i j = T j i) (hcu : cu.map Prod.fst = (List.range 16).map (fun side => outr T side 5) ++ ((List.range 16).map (fun side => outr T side 5)).reverse) {m : Nat} (hm : m < 32) : at32 cu (m : Nat) = wf T (be m) fun i => 1 - be m i := by
  unfold at32
  rw [hcu, Int.toNat_natCast]
  rcases Nat.lt_or_ge m 16 with h | h
  · rw [List.getD_eq_getElem?_getD, List.getElem?_append_left (by simpa using h)]
    simp only [List.getElem?_map, List.getElem?_range h, Option.map_some, Option.getD_some]
    exact outr_wf hm hT
  · rw [List.getD_eq_getElem?_getD, List.getElem?_append_right (by simpa using h), List.getElem?_reverse (by simp; omega)]
    simp only [List.length_map, List.length_range, List.getElem?_map]
    rw [show 16 - 1 - (m - 16) = 31 - m by omega, List.getElem?_range (show 31 - m < 16 by omega)]
    simp only [Option.map_some, Option.getD_some]
    rw [outr_wf (by omega) hT, wf_symm hT]
    have e : ∀ i < 5, be (31 - m) i = 1 - be m i := fun i hi => by
      have := bits_rest m hm i hi
      have := bN_two m i
      unfold be; omega
    exact wf_congr (fun i hi => by rw [e i hi]; omega) e
end
/-- a name's side -/
def mN (x : Str) : Nat := (x.cps.toList.map fun c => 2 ^ (c - 97)).sum
def mI (x : Str) : Int := (mN x : Nat)
theorem mN_add (x y : Str) : mN (x ++ y) = mN x + mN y := by
  unfold mN
  rw [show (x ++ y).cps = x.cps ++ y.cps from rfl, Array.toList_append, List.map_append, List.sum_append]
/-- the names part the five -/
structure Part (names : List Str) : Prop where
  good : ∀ x ∈ names, (∀ c ∈ x.cps.toList, 97 ≤ c ∧ c ≤ 101) ∧ mN x < 32 ∧ mN x ≠ 0
  bits : ∀ i < 5, bsum (names.map mN) i = 1
  len : (names.map Str.length).sum = 5
theorem sum_mem {l : List Nat} {n : Nat} (h : n ∈ l) : n ≤ l.sum := by
  induction l with
  | nil => cases h
  | cons a r ih =>
    rw [List.sum_cons]
    rcases List.mem_cons.mp h with rfl | h
    · omega
    · have := ih h; omega
theorem Part.perm {a b : List Str} (h : Part a) (p : b.Perm a) : Part b := by
  refine ⟨fun x hx => h.good x (p.mem_iff.mp hx), fun i hi => ?_, ?_⟩
  · rw [← h.bits i hi]; exact ((p.map mN).map (bN · i)).sum_nat
  · rw [← h.len]; exact (p.map Str.length).sum_nat
theorem bsum_append (a b : List Nat) (i : Nat) : bsum (a ++ b) i = bsum a i + bsum b i := by unfold bsum; rw [List.map_append, List.sum_append]
theorem Part.apart {a b : List Str} {x y : Str} (h : Part (a ++ b)) (hx : x ∈ a) (hy : y ∈ b) (i : Nat) (hi : i < 5) : bN (mN x) i + bN (mN y) i ≤ 1 := by
  have e := h.bits i hi
  rw [List.map_append, bsum_append] at e
  have h1 := sum_mem (List.mem_map_of_mem (f := (bN · i)) (List.mem_map_of_mem (f := mN) hx))
  have h2 := sum_mem (List.mem_map_of_mem (f := (bN · i)) (List.mem_map_of_mem (f := mN) hy))
  unfold bsum at e
  omega
theorem Part.ne {a b : List Str} {x y : Str} (h : Part (a ++ b)) (hx : x ∈ a) (hy : y ∈ b) : x ≠ y := fun e => by
  subst e
  obtain ⟨_, h1, h2⟩ := h.good x (List.mem_append_left _ hx)
  obtain ⟨i, hi, h3⟩ := bits_self _ h1 h2
  have := h.apart hx hy i hi
  omega
section
variable {T : Nat → Nat → Int}
/-- the tie of two names -/
def tieW (T : Nat → Nat → Int) (x y : Str) : Int := wf T (be (mN x)) (be (mN y))
theorem tieW_symm (hT : ∀ i j, T i j = T j i) (x y : Str) : tieW T x y = tieW T y x := wf_symm hT
theorem tieW_one : ∀ i < 5, ∀ j < 5, tieW T (nm i) (nm j) = T i j := by
  have single : ∀ (k : Nat) (f : Nat → Int), k < 5 → sm 5 (fun i => (if i = k then 1 else 0) * f i) = f k := fun k f hk => by
    match k, hk with
    | 0, _ | 1, _ | 2, _ | 3, _ | 4, _ => simp [sm]
  have e : ∀ j < 5, ∀ i < 5, be (mN (nm j)) i = if i = j then 1 else 0 := fun j hj i hi => by
    have h1 : mN (nm j) = 2 ^ j := by unfold mN nm; simp
    unfold be
    rw [h1, bits_one j hj i hi]; split <;> rfl
  intro i hi j hj
  unfold tieW
  rw [wf_congr (e i hi) (e j hj)]
  unfold wf
  have e2 : ∀ i', (sm 5 fun j' => (if i' = i then (1 : Int) else 0) * ((if j' = j then 1 else 0) * T i' j')) = (if i' = i then 1 else 0) * T i' j := fun i' => by
    rw [sm_mul, single j (T i') hj]
  rw [sm_congr 5 fun i' _ => e2 i', single i (fun i' => T i' j) hi]
theorem tieW_add (hT : ∀ i j, T i j = T j i) {x y z : Str} (hx : mN x < 32) (hy : mN y < 32) (h : ∀ i < 5, bN (mN x) i + bN (mN y) i ≤ 1) : tieW T (x ++ y) z = tieW T x z + tieW T y z ∧ tieW T z (x ++ y) = tieW T z x + tieW T z y := by
  have e : ∀ i < 5, be (mN (x ++ y)) i = be (mN x) i + be (mN y) i := fun i hi => by
    unfold be
    rw [mN_add, (bits_add hx hy h).2 i hi]; omega
  exact ⟨(wf_congr e fun _ _ => rfl).trans wf_add, (wf_congr (fun _ _ => rfl) e).trans (wf_add_r hT)⟩
theorem tieW_pos (h0 : ∀ i j, 0 ≤ T i j) (x y : Str) : 0 ≤ tieW T x y := wf_pos h0 (fun i _ => by unfold be; omega) fun i _ => by unfold be; omega
/-- two of the names become one -/
theorem Part.join {os : List Str} {x y : Str} (h : Part (os ++ [x, y])) : Part (os ++ [x ++ y]) ∧ (∀ i < 5, bN (mN x) i + bN (mN y) i ≤ 1) := by
  have hx := h.good x (List.mem_append_right _ (.head _))
  have hy := h.good y (List.mem_append_right _ (.tail _ (.head _)))
  have hp : ∀ i < 5, bN (mN x) i + bN (mN y) i ≤ 1 := fun i hi => by
    have e := h.bits i hi
    rw [List.map_append, bsum_append] at e
    have e2 : bsum ([x, y].map mN) i = bN (mN x) i + (bN (mN y) i + 0) := rfl
    omega
  obtain ⟨h1, h2⟩ := bits_add hx.2.1 hy.2.1 hp
  refine ⟨⟨fun z hz => ?_, fun i hi => ?_, ?_⟩, hp⟩
  · rcases List.mem_append.mp hz with hz | hz
    · exact h.good z (List.mem_append_left _ hz)
    · rw [List.mem_singleton] at hz; subst hz
      refine ⟨fun c hc => ?_, by rw [mN_add]; exact h1, by rw [mN_add]; have := hx.2.2; omega⟩
      rw [show (x ++ y).cps = x.cps ++ y.cps from rfl, Array.toList_append] at hc
      rcases List.mem_append.mp hc with hc | hc
      · exact hx.1 c hc
      · exact hy.1 c hc
  · have e := h.bits i hi
    rw [List.map_append, bsum_append] at e ⊢
    have e2 : bsum ([x, y].map mN) i = bN (mN x) i + (bN (mN y) i + 0) := rfl
    have e3 : bsum ([x ++ y].map mN) i = bN (mN (x ++ y)) i + 0 := rfl
    rw [e3, mN_add, h2 i hi]; omega
  · have e := h.len
    rw [List.map_append, List.sum_append] at e ⊢
    have e2 : ([x, y].map Str.length).sum = x.length + (y.length + 0) := rfl
    have e3 : ([x ++ y].map Str.length).sum = (x ++ y).length + 0 := rfl
    rw [e3, Str.length_append]; omega
theorem part0 : Part names5 := ⟨by decide +kernel, by decide +kernel, by decide +kernel⟩
end
theorem calledAt_nat (vs : List Str) (i : Nat) : calledAt mI vs i = (((vs.take i).map mN).sum : Nat) := by
  unfold calledAt
  generalize vs.take i = l
  induction l with
  | nil => rfl
  | cons a r ih => rw [List.map_cons, List.map_cons, List.sum_cons, List.sum_cons, ih]; unfold mI; omega
theorem sub_sum {a b : List Nat} (h : a.Sublist b) : a.sum ≤ b.sum := by
  induction h with
  | slnil => exact Nat.le_refl _
  | cons x _ ih => rw [List.sum_cons]; omega
  | cons_cons x _ ih => rw [List.sum_cons, List.sum_cons]; omega
theorem Part.sub {vs : List Str} {L : List Nat} (h : Part vs) (hs : L.Sublist (vs.map mN)) : L.sum < 32 ∧ ∀ i < 5, bN L.sum i = bsum L i := by
  refine bits_sum L (fun m hm => ?_) fun i hi => ?_
  · obtain ⟨x, hx, rfl⟩ := List.mem_map.mp (hs.subset hm)
    exact (h.good x hx).2.1
  · rw [← h.bits i hi]
    exact sub_sum (hs.map (bN · i))
section
variable {T : Nat → Nat → Int} {cu : List (Int × Tok)} {vs : List Str}
theorem pull_wf (x : Str) : ∀ (l : List Str), pullI (tieW T) l x = wf T (fun j => (bsum (l.map mN) j : Nat)) (be (mN x))
  | [] => wf_zero.symm
  | a :: r => by
    have e : pullI (tieW T) (a :: r) x = tieW T a x + pullI (tieW T) r x := rfl
    rw [e, pull_wf x r]
    unfold tieW
    rw [← wf_add]
    refine wf_congr (fun i _ => ?_) fun _ _ => rfl
    have : bsum ((a :: r).map mN) i = bN (mN a) i + bsum (r.map mN) i := rfl
    rw [this]; unfold be; omega
variable (hT : ∀ i j, T i j = T j i) (hcu : cu.map Prod.fst = (List.range 16).map (fun side => outr T side 5) ++ ((List.range 16).map (fun side => outr T side 5)).reverse) (hP : Part vs)
include hP in
theorem called_in (i : Nat) : 0 ≤ calledAt mI vs i ∧ calledAt mI vs i < 32 := by
  have := (hP.sub ((List.take_sublist i vs).map mN)).1
  rw [calledAt_nat]; omega
theorem called_sub {i k : Nat} {x : Str} (hik : i ≤ k) (hk : vs[k]? = some x) : ((vs.take i).map mN ++ [mN x]).Sublist (vs.map mN) := by
  have hx : x ∈ vs.drop i := by
    have : (vs.drop i)[k - i]? = some x := by rw [List.getElem?_drop, show i + (k - i) = k by omega]; exact hk
    exact List.mem_of_getElem? this
  have h1 : (vs.take i ++ [x]).Sublist (vs.take i ++ vs.drop i) := List.Sublist.append (List.Sublist.refl _) (List.singleton_sublist.mpr hx)
  rw [List.take_append_drop] at h1
  have := h1.map mN
  rwa [List.map_append] at this
include hP in
theorem called_in2 {i k : Nat} {x : Str} (hik : i ≤ k) (hk : vs[k]? = some x) : 0 ≤ calledAt mI vs i + mI x ∧ calledAt mI vs i + mI x < 32 := by
  have := (hP.sub (called_sub hik hk)).1
  rw [List.sum_append, List.sum_singleton] at this
  rw [calledAt_nat]; unfold mI; omega
include hT hcu hP in
/-- who is called: twice the ties -/
theorem callX_pull {i k : Nat} {x : Str} (hik : i ≤ k) (hk : vs[k]? = some x) : callX cu mI (calledAt mI vs i) x = 2 * pullI (tieW T) (vs.take i) x := by
  have s1 := hP.sub ((List.take_sublist i vs).map mN)
  have s2 := hP.sub (called_sub hik hk)
  have hx := (hP.good x (List.mem_of_getElem? hk)).2.1
  rw [List.sum_append, List.sum_singleton] at s2
  unfold callX
  rw [calledAt_nat, pull_wf]
  unfold mI
  rw [← Int.natCast_add, at32_wf hT hcu s1.1, at32_wf hT hcu hx, at32_wf hT hcu s2.1]
  have e1 : ∀ j < 5, be ((vs.take i).map mN).sum j = (bsum ((vs.take i).map mN) j : Nat) := fun j hj => by unfold be; rw [s1.2 j hj]
  have e2 : ∀ j < 5, be (((vs.take i).map mN).sum + mN x) j = be ((vs.take i).map mN).sum j + be (mN x) j := fun j hj => by
    unfold be
    rw [s2.2 j hj, bsum_append, s1.2 j hj]
    have : bsum [mN x] j = bN (mN x) j + 0 := rfl
    rw [this]; omega
  rw [wf_congr (T := T) e2 fun j hj => by rw [e2 j hj], cut_two hT]
  rw [wf_congr (T := T) e1 fun _ _ => rfl]
theorem tolds_form (l : Str) : ∀ (rs : List Str), rs.Nodup → ∀ k ∈ tolds mI l rs.reverse, ∃ ep : Str → Nat, (∀ x, ep x = 0 ∨ ep x = 1) ∧ k = ((mN l + (rs.map fun x => ep x * mN x).sum : Nat) : Int)
  | [], _, k, hk => by
    have : k = mI l := by simpa [tolds] using hk
    exact ⟨fun _ => 0, fun _ => .inl rfl, this⟩
  | x :: rs, hn, k, hk => by
    rw [List.nodup_cons] at hn
    rw [List.reverse_cons, tolds_snoc] at hk
    have same : ∀ (ep : Str → Nat) (v : Nat), (rs.map fun y => (if y = x then v else ep y) * mN y).sum = (rs.map fun y => ep y * mN y).sum := fun ep v => by
      congr 1
      exact List.map_congr_left fun y hy => by rw [if_neg fun e : y = x => hn.1 (e ▸ hy)]
    rcases List.mem_append.mp hk with hk | hk
    · obtain ⟨ep, h1, h2⟩ := tolds_form l rs hn.2 k hk
      refine ⟨fun y => if y = x then 0 else ep y, fun y => by dsimp only; split; exact .inl rfl; exact h1 y, ?_⟩
      rw [List.map_cons, List.sum_cons, same ep 0, h2]
      show _ = ((mN l + ((if x = x then 0 else ep x) * mN x + _) : Nat) : Int)
      rw [if_pos rfl]; omega
    · obtain ⟨k', hk', rfl⟩ := List.mem_map.mp hk
      obtain ⟨ep, h1, h2⟩ := tolds_form l rs hn.2 k' hk'
      refine ⟨fun y => if y = x then 1 else ep y, fun y => by dsimp only; split; exact .inr rfl; exact h1 y, ?_⟩
      rw [List.map_cons, List.sum_cons, same ep 1, h2]
      show _ = ((mN l + ((if x = x then 1 else ep x) * mN x + _) : Nat) : Int)
      rw [if_pos rfl]; unfold mI; omega
theorem bN_mul {e m i : Nat} (h : e = 0 ∨ e = 1) : bN (e * m) i = e * bN m i := by
  rcases h with rfl | rfl
  · simp [bN]
  · simp
variable {us os : List Str} {b e : Str}
theorem tolds_side (hvs : Part (us ++ [b, e])) (hos : os.Perm us) (hn : us.Nodup) {k : Int} (hk : k ∈ tolds mI e os) :
    ∃ (m : Nat) (ep : Str → Nat), k = m ∧ m < 32 ∧ (∀ x, ep x = 0 ∨ ep x = 1) ∧ ∀ i < 5, be m i = be (mN e) i + ((us.map fun x => ep x * bN (mN x) i).sum : Nat) := by
  have h0 : os.reverse.Nodup := (os.reverse_perm.trans hos).nodup_iff.mpr hn
  rw [← List.reverse_reverse os] at hk
  obtain ⟨ep, h1, h2⟩ := tolds_form e os.reverse h0 k hk
  have h3 : (os.reverse.map fun x => ep x * mN x).sum = (us.map fun x => ep x * mN x).sum := ((os.reverse_perm.trans hos).map _).sum_nat
  rw [h3] at h2
  have hb : ∀ (l : List Str) (i : Nat), bsum (l.map fun x => ep x * mN x) i = (l.map fun x => ep x * bN (mN x) i).sum ∧ bsum (l.map fun x => ep x * mN x) i ≤ bsum (l.map mN) i := fun l i => by
    induction l with
    | nil => exact ⟨rfl, Nat.le_refl _⟩
    | cons a r ih =>
      have e1 : bsum ((a :: r).map fun x => ep x * mN x) i = bN (ep a * mN a) i + bsum (r.map fun x => ep x * mN x) i := rfl
      have e2 : bsum ((a :: r).map mN) i = bN (mN a) i + bsum (r.map mN) i := rfl
      rw [e1, e2, bN_mul (h1 a), List.map_cons, List.sum_cons]
      refine ⟨by rw [ih.1], ?_⟩
      have := ih.2
      rcases h1 a with h | h <;> rw [h] <;> omega
  have hL := bits_sum (mN e :: us.map fun x => ep x * mN x) (fun m hm => ?_) fun i hi => ?_
  · rw [List.sum_cons] at hL
    refine ⟨_, ep, h2, hL.1, h1, fun i hi => ?_⟩
    have : bsum (mN e :: us.map fun x => ep x * mN x) i = bN (mN e) i + bsum (us.map fun x => ep x * mN x) i := rfl
    unfold be
    rw [hL.2 i hi, this, (hb us i).1]; omega
  · rcases List.mem_cons.mp hm with rfl | hm
    · exact (hvs.good e (List.mem_append_right _ (.tail _ (.head _)))).2.1
    · obtain ⟨x, hx, rfl⟩ := List.mem_map.mp hm
      have := (hvs.good x (List.mem_append_left _ hx)).2.1
      rcases h1 x with h | h <;> rw [h] <;> omega
  · have e1 := hvs.bits i hi
    rw [List.map_append, bsum_append] at e1
    have e2 : bsum ([b, e].map mN) i = bN (mN b) i + (bN (mN e) i + 0) := rfl
    have e3 : bsum (mN e :: us.map fun x => ep x * mN x) i = bN (mN e) i + bsum (us.map fun x => ep x * mN x) i := rfl
    have := (hb us i).2
    omega
end
section
variable {T : Nat → Nat → Int} {cu : List (Int × Tok)} {us os : List Str} {b e : Str}
variable (hT : ∀ i j, T i j = T j i) (h0 : ∀ i j, 0 ≤ T i j) (hcu : cu.map Prod.fst = (List.range 16).map (fun side => outr T side 5) ++ ((List.range 16).map (fun side => outr T side 5)).reverse)
theorem be_pos (x : Str) (i : Nat) (_ : i < 5) : 0 ≤ be (mN x) i := by unfold be; omega
include hT hcu in
theorem own_cut (hP : Part (us ++ [b, e])) : at32 cu (mI e) = pullI (tieW T) (us ++ [b]) e := by
  have he := (hP.good e (List.mem_append_right _ (.tail _ (.head _)))).2.1
  unfold mI
  rw [at32_wf hT hcu he, pull_wf, wf_symm hT]
  refine wf_congr (fun i hi => ?_) fun _ _ => rfl
  have h := hP.bits i hi
  rw [List.map_append, bsum_append] at h ⊢
  have e1 : bsum ([b, e].map mN) i = bN (mN b) i + (bN (mN e) i + 0) := rfl
  have e2 : bsum ([b].map mN) i = bN (mN b) i + 0 := rfl
  rw [e2]
  unfold be
  omega
include hT h0 hcu in
theorem least_ok (hP : Part (us ++ [b, e])) (hos : os.Perm us) (hn : us.Nodup) (hl : us.length ≤ 3)
    (hO : ∀ (i k : Nat) x y, i ≤ k → (us ++ [b, e])[i]? = some x → (us ++ [b, e])[k]? = some y → pullI (tieW T) ((us ++ [b, e]).take i) y ≤ pullI (tieW T) ((us ++ [b, e]).take i) x) {k : Int} (hk : k ∈ tolds mI e os) : (0 ≤ k ∧ k < 32) ∧ pullI (tieW T) (us ++ [b]) e ≤ at32 cu k := by
  obtain ⟨m, ep, rfl, hm, hep, hf⟩ := tolds_side hP hos hn hk
  refine ⟨by omega, ?_⟩
  rw [at32_wf hT hcu hm]
  have hb := hP.bits
  have z : ∀ i < 5, (0 : Int) ≤ (fun _ => (0 : Int)) i := fun _ _ => Int.le_refl 0
  have ei : ∀ x, (ep x : Int) = 0 ∨ (ep x : Int) = 1 := fun x => by rcases hep x with h | h <;> omega
  have mu : ∀ (x : Str) (i : Nat), ((ep x * bN (mN x) i : Nat) : Int) = (ep x : Int) * be (mN x) i := fun x i => by unfold be; exact Int.natCast_mul _ _
  match us, hl, hb, hO, hf with
  | [], _, hb, hO, hf =>
    have h1 : ∀ i < 5, (0 : Int) + 0 + 0 + be (mN b) i + be (mN e) i = 1 := fun i hi => by
      have h : bN (mN b) i + (bN (mN e) i + 0) = 1 := hb i hi
      unfold be; omega
    have := phase hT h0 (a := fun _ => 0) (b := fun _ => 0) (c := fun _ => 0) (d := be (mN b)) (e := be (mN e)) (f := be m) z z z (be_pos b) (be_pos e) h1 (by simp only [wf_zero]; decide) (by simp only [wf_zero]; decide) (by simp only [wf_zero]; decide)
      (by simp only [wf_zero]; decide) (by simp only [wf_zero]; decide) (by simp only [wf_zero]; decide) (x := 0) (y := 0) (z := 0) (.inl rfl) (.inl rfl) (.inl rfl) (fun i hi => by rw [hf i hi]; simp)
    simp only [wf_zero] at this
    have e1 : pullI (tieW T) ([] ++ [b]) e = wf T (be (mN b)) (be (mN e)) + 0 := rfl
    omega
  | [c], _, hb, hO, hf =>
    have h1 : ∀ i < 5, (0 : Int) + 0 + be (mN c) i + be (mN b) i + be (mN e) i = 1 := fun i hi => by
      have h : bN (mN c) i + (bN (mN b) i + (bN (mN e) i + 0)) = 1 := hb i hi
      unfold be; omega
    have o7 : tieW T c e + 0 ≤ tieW T c b + 0 := hO 1 2 b e (by decide) rfl rfl
    unfold tieW at o7
    have := phase hT h0 (a := fun _ => 0) (b := fun _ => 0) (c := be (mN c)) (d := be (mN b)) (e := be (mN e)) (f := be m) z z (be_pos c) (be_pos b) (be_pos e) h1 (by simp only [wf_zero]; decide) (by simp only [wf_zero]; decide) (by simp only [wf_zero]; decide)
      (by simp only [wf_zero]; decide) (by simp only [wf_zero]; decide) (by simp only [wf_zero]; omega) (x := 0) (y := 0) (z := ep c) (.inl rfl) (.inl rfl) (ei c) (fun i hi => by
        have h : be m i = be (mN e) i + ((ep c * bN (mN c) i + 0 : Nat) : Int) := hf i hi
        rw [h, ← mu]; omega)
    simp only [wf_zero] at this
    have e1 : pullI (tieW T) ([c] ++ [b]) e = wf T (be (mN c)) (be (mN e)) + (wf T (be (mN b)) (be (mN e)) + 0) := rfl
    omega
  | [a, c], _, hb, hO, hf =>
    have h1 : ∀ i < 5, (0 : Int) + be (mN a) i + be (mN c) i + be (mN b) i + be (mN e) i = 1 := fun i hi => by
      have h : bN (mN a) i + (bN (mN c) i + (bN (mN b) i + (bN (mN e) i + 0))) = 1 := hb i hi
      unfold be; omega
    have o5 : tieW T a b + 0 ≤ tieW T a c + 0 := hO 1 2 c b (by decide) rfl rfl
    have o6 : tieW T a e + 0 ≤ tieW T a c + 0 := hO 1 3 c e (by decide) rfl rfl
    have o7 : tieW T a e + (tieW T c e + 0) ≤ tieW T a b + (tieW T c b + 0) := hO 2 3 b e (by decide) rfl rfl
    unfold tieW at o5 o6 o7
    have := phase hT h0 (a := fun _ => 0) (b := be (mN a)) (c := be (mN c)) (d := be (mN b)) (e := be (mN e)) (f := be m) z (be_pos a) (be_pos c) (be_pos b) (be_pos e) h1 (by simp only [wf_zero]; decide) (by simp only [wf_zero]; decide) (by simp only [wf_zero]; decide)
      (by simp only [wf_zero]; omega) (by simp only [wf_zero]; omega) (by simp only [wf_zero]; omega) (x := 0) (y := ep a) (z := ep c) (.inl rfl) (ei a) (ei c) (fun i hi => by
        have h : be m i = be (mN e) i + ((ep a * bN (mN a) i + (ep c * bN (mN c) i + 0) : Nat) : Int) := hf i hi
        rw [h, ← mu, ← mu]; omega)
    simp only [wf_zero] at this
    have e1 : pullI (tieW T) ([a, c] ++ [b]) e = wf T (be (mN a)) (be (mN e)) + (wf T (be (mN c)) (be (mN e)) + (wf T (be (mN b)) (be (mN e)) + 0)) := rfl
    omega
  | [g, a, c], _, hb, hO, hf =>
    have h1 : ∀ i < 5, be (mN g) i + be (mN a) i + be (mN c) i + be (mN b) i + be (mN e) i = 1 := fun i hi => by
      have h : bN (mN g) i + (bN (mN a) i + (bN (mN c) i + (bN (mN b) i + (bN (mN e) i + 0)))) = 1 := hb i hi
      unfold be; omega
    have o2 : tieW T g c + 0 ≤ tieW T g a + 0 := hO 1 2 a c (by decide) rfl rfl
    have o3 : tieW T g b + 0 ≤ tieW T g a + 0 := hO 1 3 a b (by decide) rfl rfl
    have o4 : tieW T g e + 0 ≤ tieW T g a + 0 := hO 1 4 a e (by decide) rfl rfl
    have o5 : tieW T g b + (tieW T a b + 0) ≤ tieW T g c + (tieW T a c + 0) := hO 2 3 c b (by decide) rfl rfl
    have o6 : tieW T g e + (tieW T a e + 0) ≤ tieW T g c + (tieW T a c + 0) := hO 2 4 c e (by decide) rfl rfl
    have o7 : tieW T g e + (tieW T a e + (tieW T c e + 0)) ≤ tieW T g b + (tieW T a b + (tieW T c b + 0)) := hO 3 4 b e (by decide) rfl rfl
    unfold tieW at o2 o3 o4 o5 o6 o7
    have := phase hT h0 (a := be (mN g)) (b := be (mN a)) (c := be (mN c)) (d := be (mN b)) (e := be (mN e)) (f := be m) (be_pos g) (be_pos a) (be_pos c) (be_pos b) (be_pos e) h1 (by omega) (by omega) (by omega) (by omega) (by omega) (by omega) (x := ep g) (y := ep a) (z := ep c) (ei g) (ei a) (ei c) (fun i hi => by
        have h : be m i = be (mN e) i + ((ep g * bN (mN g) i + (ep a * bN (mN a) i + (ep c * bN (mN c) i + 0)) : Nat) : Int) := hf i hi
        rw [h, ← mu, ← mu, ← mu]; omega)
    have e1 : pullI (tieW T) ([g, a, c] ++ [b]) e = wf T (be (mN g)) (be (mN e)) + (wf T (be (mN a)) (be (mN e)) + (wf T (be (mN c)) (be (mN e)) + (wf T (be (mN b)) (be (mN e)) + 0))) := rfl
    omega
  | _ :: _ :: _ :: _ :: _, hl, _, _, _ => exact absurd hl (by simp)
include hT in
/-- a row's sum -/
theorem row_sum {names : List Str} (hp : (us ++ [b, e]).Perm names) (hn : (us ++ [b, e]).Nodup) : ((rowOf (tieW T) names e).map (·.2)).sum = pullI (tieW T) (us ++ [b]) e := by
  unfold rowOf
  rw [List.map_map]
  have h1 : (names.filter fun y => decide (y ≠ e)).Perm (us ++ [b]) := by
    refine (hp.symm.filter _).trans ?_
    rw [show us ++ [b, e] = (us ++ [b]) ++ [e] by simp, List.filter_append, List.filter_cons_of_neg (by simp), List.filter_nil, List.append_nil, List.filter_eq_self.mpr fun y hy => ?_]
    rw [show us ++ [b, e] = (us ++ [b]) ++ [e] by simp, List.nodup_append] at hn
    simpa using hn.2.2 y hy e (List.mem_singleton.mpr rfl)
  have sum_int : ∀ {l l' : List Int}, l.Perm l' → l.sum = l'.sum := fun {l l'} h => by
    induction h with
    | nil => rfl
    | cons x _ ih => rw [List.sum_cons, List.sum_cons, ih]
    | swap x y l => simp only [List.sum_cons]; omega
    | trans _ _ h1 h2 => exact h1.trans h2
  refine (sum_int (h1.map _)).trans ?_
  unfold pullI
  congr 1
  exact List.map_congr_left fun y _ => tieW_symm hT e y
theorem gtP_twice (a b c d : Int) : gtP (2 * a) b (2 * c) d = gtP a b c d := by
  rw [Bool.eq_iff_iff, gtP_iff, gtP_iff]; omega
end
theorem price_symm (c d : Int) : priceI c d = priceI d c := by
  unfold priceI
  congr 1
  exact List.map_congr_left fun k _ => by unfold priceT; rw [Int.add_comm]
theorem place_symm (i j : Int) : place i j = place j i := by unfold place; rw [Int.min_comm, Int.max_comm]
theorem tieI_symm (cs : List Int) (i j : Nat) : tieI cs i j = tieI cs j i := by
  unfold tieI; rw [price_symm, place_symm]
theorem tieI_pos (cs : List Int) (i j : Nat) : 0 ≤ tieI cs i j := by
  unfold tieI
  split
  · rename_i h
    have := reachI_in cs
    refine Int.mul_nonneg ?_ (by omega)
    split <;> omega
  · exact Int.le_refl 0
section
variable {prog : Program} {w : World} {A : Around} {E : Value → Shared → Prop} {s : Shared} {env : Env} {pos : Pos} {test : Expr} {body rest : List Stmt} {Q : Flow → Shared → Prop} {n : Nat}
theorem k_whileT (I T : Nat → Shared → Prop) (F : Shared → Prop) (n : Nat) (h : I n s) (tst : ∀ n s u E, I n (tk s u) → WP (model prog w) A (isTrue test env (eval test env)) (fun b s₂ => (b = true → T n s₂) ∧ (b = false → F s₂)) E (tk s u))
    (turn : ∀ n s u E QQ, (∀ m s, m < n → I m s → QQ .next s) → (∀ v s, Q (.ret v) s → QQ (.ret v) s) → T n (tk s u) → WP (model prog w) A (execs body env) QQ E (tk s u))
    (fin : ∀ s u, F (tk s u) → WP (model prog w) A (execs rest env) Q E (tk s u)) : WP (model prog w) A (execs (.While test body [] pos :: rest) env) Q E s :=
  k_while2 I T F n h (fun n s E hI => tst n s s.toks E hI) (fun n s E hT => turn n s s.toks E _ (fun m s hm hI => Turn.next hm hI) (fun v s x => x) hT) fun s h => fin s s.toks h
end
theorem Part.nodup {l : List Str} (h : Part l) : l.Nodup := by
  rw [List.Nodup, List.pairwise_iff_getElem]
  intro i j hi hj hij e
  have h' : Part (l.take (i + 1) ++ l.drop (i + 1)) := by rw [List.take_append_drop]; exact h
  refine h'.ne (x := l[i]) (y := l[j]) ?_ ?_ e
  · exact List.mem_of_getElem? (i := i) (by rw [List.getElem?_take, if_pos (Nat.lt_succ_self i)]; exact List.getElem?_eq_getElem hi)
  · exact List.mem_of_getElem? (i := j - (i + 1)) (by rw [List.getElem?_drop, show i + 1 + (j - (i + 1)) = j by omega]; exact List.getElem?_eq_getElem hj)
theorem Part.short {l : List Str} (h : Part l) {x : Str} (hx : x ∈ l) : x.length ≠ 0 ∧ x.length ≤ 5 := by
  refine ⟨fun e => ?_, ?_⟩
  · refine (h.good x hx).2.2 ?_
    have : x.cps = #[] := Array.size_eq_zero_iff.mp e
    unfold mN; rw [this]; rfl
  · have := sum_mem (List.mem_map_of_mem (f := Str.length) hx)
    rw [h.len] at this; exact this
theorem toks_row {n : Nat} (h1 : 1 ≤ n) {xs : List (Str × Nat)} (h : ∀ (j : Nat) q, xs[j]? = some q → q.2 = n + j) : (∀ q ∈ xs, q.2 ≠ 0 ∧ q.2 < n + xs.length) ∧ ∀ q ∈ xs, ∀ q' ∈ xs, q.2 = q'.2 → q.1 = q'.1 := by
  refine ⟨fun q hq => ?_, fun q hq q' hq' e => ?_⟩
  · obtain ⟨j, hj⟩ := List.getElem?_of_mem hq
    have e := h j q hj
    have := (List.getElem?_eq_some_iff.mp hj).1
    omega
  · obtain ⟨j, hj⟩ := List.getElem?_of_mem hq
    obtain ⟨k, hk⟩ := List.getElem?_of_mem hq'
    have e1 := h j q hj
    have e2 := h k q' hk
    have : j = k := by omega
    subst this
    rw [hj] at hk
    cases hk; rfl
inductive LawI (prog : Program) (w : World) (p : Par) (g₀ : Heap) (L ce c cut : Addr) (T : Nat → Nat → Int) (sl : Nat) : Nat → Shared → Prop
  | mk {g : Heap} {s : Shared} {xs : List (Str × Tok)} {l d : Addr} {bv lv : Option Value} : g₀.StaysIn g → RowsAt prog w g d (xs.map (·.1)) (tieW T) → OAt g l (isPL (xs.map sV)) → Part (xs.map (·.1)) → xs.length ≤ 5 → (∀ q ∈ xs, q.2 ≠ 0 ∧ q.2 + sl < s.toks) → (∀ q ∈ xs, ∀ q' ∈ xs, q.2 = q'.2 → q.1 = q'.1) →
      Cx p g s [("live", .ref l), ("cuts", .ref cut), ("comp", .ref c), ("cells", .ref ce)] [(L + 1, isCell (some (.ref d))), (L + 1 + 1, isCell bv), (L + 1 + 1 + 1, isCell lv)] → LawI prog w p g₀ L ce c cut T sl xs.length s
theorem mask_sum (x : Str) : ((List.range x.cps.size).map fun j => (2 : Int) ^ (x.cps.toList.getD j 0 - 97)).sum = mI x := by
  rw [← Array.length_toList, range_map x.cps.toList (fun c => (2 : Int) ^ (c - 97)) _ fun j c h => by simp [h]]
  unfold mI mN
  induction x.cps.toList with
  | nil => rfl
  | cons c r ih => rw [List.map_cons, List.map_cons, List.sum_cons, List.sum_cons, ih, Int.natCast_add, Int.natCast_pow]; rfl
theorem last_two {α : Type} {l : List α} (h : 2 ≤ l.length) : ∃ us a b, l = us ++ [a, b] := by
  have h1 : l ≠ [] := fun e => by rw [e] at h; simp at h
  have e1 := List.dropLast_concat_getLast h1
  have h2 : l.dropLast ≠ [] := fun e => by rw [e] at e1; rw [← e1] at h; exact absurd h (by simp)
  have e2 := List.dropLast_concat_getLast h2
  exact ⟨_, _, _, by rw [← e1]; conv => { lhs; rw [← e2] }; rw [List.append_assoc]; rfl⟩
inductive OthJ (xs : List (Str × Tok)) (x y : Str) : Nat → Heap → List Value → Prop
  | mk {j : Nat} {g : Heap} : OthJ xs x y j g (((xs.take j).filter fun z => decide (z.1 ≠ x) && decide (z.1 ≠ y)).map sV)
theorem tolds_self (S : Str → Int) (l : Str) (os : List Str) : S l ∈ tolds S l os := by
  have key : ∀ (os : List Str) (acc : List Int), S l ∈ acc → S l ∈ os.foldl (fun acc x => acc ++ acc.map (· + S x)) acc := fun os => by
    induction os with
    | nil => exact fun _ h => h
    | cons x r ih => exact fun acc h => ih _ (List.mem_append_left _ h)
  exact key os _ (.head _)
inductive SidesJ (xs : List (Str × Tok)) : Nat → Heap → List (Str × Value) → Prop
  | mk {i : Nat} {g : Heap} {kvs : List (Str × Value)} : kvs.map (·.1) = (xs.take i).map (·.1) → (∀ (j : Nat) q, j < i → xs[j]? = some q → HasI kvs mI q.1) → SidesJ xs i g kvs
theorem SidesJ.nil {xs : List (Str × Tok)} {g : Heap} : SidesJ xs 0 g [] := .mk rfl fun j q h => absurd h (Nat.not_lt_zero _)
theorem key_new {xs : List (Str × Tok)} (hn : (xs.map (·.1)).Nodup) {i : Nat} {q : Str × Tok} (hq : xs[i]? = some q) {kvs : List (Str × Value)} (hk : kvs.map (·.1) = (xs.take i).map (·.1)) : valueAt kvs q.1 = none := valueAt_none_of_not_mem (by
  rw [hk]
  intro h
  obtain ⟨q', h1, h2⟩ := List.mem_map.mp h
  obtain ⟨m, h3⟩ := List.getElem?_of_mem h1
  rw [List.getElem?_take] at h3
  split at h3
  · rename_i h4
    exact absurd (nodup_at hn h3 hq h2) (Nat.ne_of_lt h4)
  · cases h3)
theorem SidesJ.snoc {xs : List (Str × Tok)} (hn : (xs.map (·.1)).Nodup) {i : Nat} {g g' : Heap} {kvs : List (Str × Value)} (h : SidesJ xs i g kvs) {q : Str × Tok} (hq : xs[i]? = some q) {k : Int} {t : Tok} (e : k = mI q.1) : SidesJ xs (i + 1) g' (stored kvs q.1 (.int k t)) := by
  obtain ⟨hk, hv⟩ := h
  have hnone := key_new hn hq hk
  rw [stored_new hnone]
  refine .mk (by rw [List.map_append, hk, take_snoc hq, List.map_append]; rfl) fun m q' hm' h => ?_
  rcases Nat.lt_or_ge m i with h5 | h5
  · obtain ⟨t, h6⟩ := hv m q' h5 h
    exact ⟨t, valueAt_old h6⟩
  · obtain rfl : m = i := by omega
    rw [hq] at h
    cases h
    exact ⟨t, by rw [← e]; exact valueAt_new hnone⟩
inductive KeptJ (prog : Program) (w : World) (kvr : List (Str × Value)) (xs : List (Str × Tok)) : Nat → Heap → List (Str × Value) → Prop
  | mk {i : Nat} {g : Heap} {kk : List (Str × Value)} : kk.map (·.1) = (xs.take i).map (·.1) → (∀ (j : Nat) q, j < i → xs[j]? = some q → ∃ r r' kws, valueAt kvr q.1 = some (.ref r) ∧ valueAt kk q.1 = some (.ref r') ∧ r ≠ r' ∧ (r == sysModules) = false ∧ (r' == sysModules) = false ∧ g.DictOf (strKind prog w) r kws ∧ g.DictOf (strKind prog w) r' kws) → KeptJ prog w kvr xs i g kk
theorem KeptJ.nil {prog : Program} {w : World} {kvr : List (Str × Value)} {xs : List (Str × Tok)} {g : Heap} : KeptJ prog w kvr xs 0 g [] := .mk rfl fun j q h => absurd h (Nat.not_lt_zero _)
theorem KeptJ.snoc {prog : Program} {w : World} {kvr : List (Str × Value)} {xs : List (Str × Tok)} (hn : (xs.map (·.1)).Nodup) {i : Nat} {g g' : Heap} {kk : List (Str × Value)} (h : KeptJ prog w kvr xs i g kk) (hg : g.StaysIn g') {q : Str × Tok} (hq : xs[i]? = some q) {r r' : Addr} {kws : List (Str × Value)}
    (h1 : valueAt kvr q.1 = some (.ref r)) (h2 : r ≠ r') (h3 : (r == sysModules) = false) (h4 : (r' == sysModules) = false) (h5 : g'.DictOf (strKind prog w) r kws) (h6 : g'.DictOf (strKind prog w) r' kws) : KeptJ prog w kvr xs (i + 1) g' (stored kk q.1 (.ref r')) := by
  obtain ⟨hk, hv⟩ := h
  have hnone := key_new hn hq hk
  rw [stored_new hnone]
  refine .mk (by rw [List.map_append, hk, take_snoc hq, List.map_append]; rfl) fun m q' hm' h => ?_
  rcases Nat.lt_or_ge m i with h7 | h7
  · obtain ⟨r, r', kws, a, b, c, d, e, f, k⟩ := hv m q' h7 h
    exact ⟨r, r', kws, a, valueAt_old b, c, d, e, f.at (hg _), k.at (hg _)⟩
  · obtain rfl : m = i := by omega
    rw [hq] at h
    cases h
    exact ⟨r, r', kws, h1, valueAt_new hnone, h2, h3, h4, h5, h6⟩
section
variable {prog : Program} {w : World} {g : Heap} {a : Addr} {ns : List (Int × Tok)}
set_option maxHeartbeats 0 in
theorem law_ct (B : Base (KK w) g) (ha : g.IsList a (ns.map iV).toArray) (hn : ns.length ≤ 63) : Ct prog w 4 g (.ref 175) [.ref a] (fun _ v => v = .bool true) := by
  intro A s₀ Q E fit hg ret
  refine enterC (binds := [("script", .ref a)]) (bl := [("script", .ref a)]) (cs := [("rows", none), ("before", none), ("last", none)])
    (ks := [("script", .local), ("cells", .local), ("comp", .local), ("cuts", .local), ("live", .local), ("sides", .local), ("kept", .local), ("line", .local), ("pull", .local), ("others", .local), ("both", .local), ("more", .local), ("_law_cells", .globalImplicit), ("TupleComp", .globalImplicit), ("_law_cuts", .globalImplicit), ("_law_rows", .globalImplicit), ("len", .globalImplicit), ("_law_called", .globalImplicit), ("_law_in_turn", .globalImplicit), ("_law_least", .globalImplicit), ("count_calls", .globalImplicit), ("concat", .globalImplicit), ("_law_joined", .globalImplicit)])
    fit B hg rfl (by kernel_rfl) rfl (by kernel_rfl) (by kernel_rfl) (by kernel_rfl) (by kernel_rfl) (by kernel_rfl) (by kernel_rfl) (by kernel_rfl) rfl rfl rfl ?_
  intro A' env L s u QQ EE hQ _ fit H Z C
  dsimp only [cellAdr, cellOwn] at Z C
  refine execs_cut (a := [_, _]) ?_
  wtm_at "go"
  refine (cells_ct (B.mono C.af.gg) ha hn).use fit (by decide) C.tk ?_; clear C
  rintro _ g1 s u C hg1 ⟨ce, cs, rfl, hce, hcs⟩
  have hce15 : ∃ t, (cs.map iV)[15]? = some (.int ((cs.map Prod.fst).getD 15 0) t) := by
    have h2 : 15 < cs.length := by omega
    exact ⟨cs[15].2, by rw [map_get (List.getElem?_eq_getElem h2)]; simp [h2]⟩
  obtain ⟨t15, e15⟩ := hce15
  generalize hD : cs.map Prod.fst = D at *
  wtm_at "go"
  refine l_listN (N := 1) ?_
  wtm_at "go"
  refine l_tuple ?_
  wtm_at "go"
  refine ⟨Nat.le_of_ble_eq_true rfl, _, _, _, _, C.tk, ?_⟩; clear C; intro s u T1 C
  obtain ⟨g2, C, hg2, hT1⟩ := C.freeze
  wtm_at "go"
  refine l_tupleN (N := 1) ?_
  wtm_at "go"
  refine l_list ?_
  wtm_at "go"
  refine ⟨Nat.le_of_ble_eq_true rfl, _, _, _, _, C.tk, ?_⟩; clear C; intro s u T3 C
  wtm_at "go"
  refine l_item (show s.heap.IsList ce _ from OAt.mono hce (stays_trans hg2 C.gh)) (by decide) (by decide) e15 ?_
  wtm_at "go"
  have hm2 := mod2 (D.getD 15 0)
  obtain ⟨tn, htn, htn0, htn1⟩ : ∃ tn : Int, (tn = 1 ∨ tn = -1) ∧ ((D.getD 15 0).fmod 2 = 0 → tn = -1) ∧ ((D.getD 15 0).fmod 2 = 1 → tn = 1) := by
    rcases (show (D.getD 15 0).fmod 2 = 0 ∨ (D.getD 15 0).fmod 2 = 1 by omega) with h | h
    · exact ⟨-1, .inr rfl, fun _ => rfl, fun h' => by omega⟩
    · exact ⟨1, .inl rfl, fun h' => by omega, fun _ => rfl⟩
  have pick2 : ∀ (x y : Int) (t₁ t₂ : Tok), (x = 2 → y = -2 → ∃ t, [Value.int x t₁, .int y t₂][((D.getD 15 0).fmod 2).toNat]? = some (.int (-2 * tn) t)) ∧ (x = -1 → y = 1 → ∃ t, [Value.int x t₁, .int y t₂][((D.getD 15 0).fmod 2).toNat]? = some (.int tn t)) := fun x y t₁ t₂ => by
    rcases (show (D.getD 15 0).fmod 2 = 0 ∨ (D.getD 15 0).fmod 2 = 1 by omega) with h | h
    · rw [h, htn0 h]
      exact ⟨fun hx hy => ⟨t₁, by rw [hx]; rfl⟩, fun hx hy => ⟨t₁, by rw [hx]; rfl⟩⟩
    · rw [h, htn1 h]
      exact ⟨fun hx hy => ⟨t₂, by rw [hy]; rfl⟩, fun hx hy => ⟨t₂, by rw [hy]; rfl⟩⟩
  obtain ⟨td, hdir⟩ := (pick2 2 (-2) _ _).1 rfl rfl
  refine l_item (OAt.isList (C.my (.head _))) hm2.1 (by omega) hdir ?_
  wtm_at "go"
  refine ⟨Nat.le_of_ble_eq_true rfl, Nat.succ_pos _, _, _, _, _, C.tk, ?_⟩; clear C; intro s u T2 h1u C
  obtain ⟨g3, C, hg3, hT2⟩ := C.freeze
  wtm_at "go"
  refine ⟨Nat.le_of_ble_eq_true rfl, h1u, _, _, _, _, C.tk, ?_⟩; clear C; intro s u sl h1u C
  obtain ⟨g4, C, hg4, hsl⟩ := C.freeze
  wtm_at "go"
  refine WP.ge (n := 1) h1u ?_
  refine c_new (C := 38) (f := 28) fit B C.tk (by kernel_rfl) (by kernel_rfl) (by kernel_rfl) rfl (by kernel_rfl) (fun _ => rfl) (by kernel_rfl) (by kernel_rfl) (by kernel_rfl) (by kernel_rfl) rfl rfl rfl (by kernel_rfl) (by kernel_rfl) (by kernel_rfl) (by kernel_rfl) (by kernel_rfl) (by kernel_rfl) ?_; clear C
  intro g5 s u c C hg5 hc h1u
  refine WP.ge (n := 1) h1u ?_
  wtm_at "st"
  intro h1u
  refine k_nil (Then.next ?_)
  refine execs_ge (N := 1) (a := [_, _]) h1u ?_
  have hgg5 : g4.StaysIn g5 := hg5
  have hg1' : g1.StaysIn g5 := stays_trans hg2 (stays_trans hg3 (stays_trans hg4 hg5))
  wtm_at "go"
  refine (cuts_ct (B.mono C.af.gg) (hce.mono hg1') hcs).use fit (by decide) C.tk ?_; clear C
  rintro _ g6 s u C hg6 ⟨cut, cu, rfl, hcut, hcu⟩
  rw [hD] at hcu
  wtm_at "go"
  refine (rows_ct (W := tieW (tieI D)) (B.mono C.af.gg) (OAt.mono hce (stays_trans hg1' hg6)) hcs (fun i hi j hj _ => by rw [hD]; exact tieW_one i hi j hj)).use fit (by decide) C.tk ?_; clear C
  rintro _ g7 s u C hg7 ⟨d, rfl, hrows⟩
  wtm_at "st"
  refine k_nil fun h1u => Then.next ?_
  replace h1u : 1 ≤ u := h1u
  generalize u = N0 at h1u ⊢
  refine k_asg ?_ rfl
  refine l_listN (N := N0 + 5) ?_
  wtm_at "go"
  refine ⟨Nat.le_of_ble_eq_true rfl, Nat.le_refl _, _, _, _, _, C.tk, ?_⟩; clear C; intro s u' l h5u C
  obtain ⟨g8, C, hg8, hl⟩ := C.freeze
  refine WP.ge (n := N0 + 5) h5u ?_
  wtm_at "st"
  intro h5u
  replace h5u : N0 + 5 ≤ u := h5u
  obtain ⟨xs, hxs⟩ : ∃ xs : List (Str × Tok), xs = ([("a", N0), ("b", N0 + 1), ("c", N0 + 1 + 1), ("d", N0 + 1 + 1 + 1), ("e", N0 + 1 + 1 + 1 + 1)] : List (Str × Tok)) := ⟨_, rfl⟩
  have hxn : xs.map (·.1) = names5 := by rw [hxs]; exact (show (["a", "b", "c", "d", "e"] : List Str) = names5 by decide +kernel)
  replace hl : OAt g8 l (isPL (xs.map sV)) := by rw [hxs]; exact hl
  have hx5 : xs.length = 5 := by rw [hxs]; rfl
  obtain ⟨htok, hapart⟩ := toks_row (n := N0) h1u (xs := xs) fun j q h => by
    rw [hxs] at h
    match j, h with
    | 0, h | 1, h | 2, h | 3, h | 4, h => cases h; rfl
    | j + 5, h => cases h
  rw [hx5] at htok
  clear hxs
  replace C := C.sel (mu' := [(L + 1, isCell (some (.ref d))), (L + 1 + 1, isCell none), (L + 1 + 1 + 1, isCell none)]) (by wtm_at "sel")
  refine k_whileT (LawI prog w ⟨s₀, g, L⟩ g8 L ce c cut (tieI D) 0) (fun n s => 2 ≤ n ∧ LawI prog w ⟨s₀, g, L⟩ g8 L ce c cut (tieI D) 1 n s) (fun s => ∃ g' ls mu, Cx ⟨s₀, g, L⟩ g' s ls mu) xs.length
    (.mk (stays_refl _) (by rw [hxn]; exact hrows.mono hg8) hl (by rw [hxn]; exact part0) (by omega) (fun q hq => ⟨(htok q hq).1, Nat.lt_of_lt_of_le (htok q hq).2 h5u⟩) hapart (C.tk.less (by wtm_at "less"))) ?_ ?_ ?_
  · clear C hl hrows htok hapart hxn hx5
    rintro n s u E2 ⟨hgx, hrw, hl, hP, hx5, htok, hap, C⟩
    rename_i g9 xs l d bv lv
    replace C : Cx _ _ s _ _ := C.tk (t := s.toks)
    wtm_at "go"
    refine l_len (C.tk.of hl).isList (by rw [List.length_map]; omega) ?_
    rw [List.length_map]
    wtm_at "go"
    refine ⟨fun hb => ⟨?_, .mk hgx hrw hl hP hx5 (fun q hq => ⟨(htok q hq).1, ?_⟩) hap C.tk⟩, fun _ => ⟨_, _, _, C.tk⟩⟩
    · have := of_decide_eq_true hb; omega
    · exact Nat.lt_of_lt_of_le (Nat.succ_lt_succ (htok q hq).2) (Nat.le_add_right (u + 1) 2)
  · clear C hl hrows htok hapart hxn hx5
    rintro n s u E2 Q2 hnext hret ⟨hn2, hgx, hrw, hl, hP, hx5, htok, hap, C⟩
    rename_i g9 xs l d bv lv
    replace C : Cx _ _ s _ _ := C.tk (t := s.toks)
    have hnd := hP.nodup
    have hrw0 := hrw
    have htk1 : ∀ q ∈ xs, Nat.succ q.2 < u := fun q hq => (htok q hq).2
    generalize u = N1 at htk1 ⊢
    obtain ⟨hd0, kvr, hdD, hkr, hrow⟩ := hrw0
    refine execs_ge (N := N1) (a := [_, _, _, _, _, _, _, _]) (Nat.le_refl _) ?_
    refine k_dcL H (by wtm_at "mem") (by kernel_rfl) Z (CompScope.of (fr := []) (ks' := [("name", .local), ("sum", .globalImplicit)]) [] rfl (by kernel_rfl) rfl (by kernel_rfl)) (by wtm_at "less") ?_ (fun _ => rfl)
    intro ZC
    wtm_at "go"
    refine it_list C.tk (C.tk.of hl).isList ?_; clear C; intro I s u C
    have hsys := fun D => nsys (D := D) B C
    refine dc_store (strKind prog w) (Src.list fit.hh hl.isList) (by rw [List.length_map]; omega) C.tk H (by wtm_at "mem") (by wtm_at "drop") ZC (frs_of Z (by wtm_at "frs")) (SidesJ xs) .nil ?_ ?_
    · clear C
      intro S' L' cenv D' Q3 K3 H Y j v g10 kvs s u E3 hE3 hj hv hg10 hJ C
      dsimp only [cpOf, List.map] at Y
      obtain ⟨q, hq, rfl⟩ : ∃ q, xs[j]? = some q ∧ sV q = v := by
        rw [List.getElem?_map, Option.map_eq_some_iff] at hv; exact hv
      have hqx : q.1 ∈ xs.map (·.1) := List.mem_map_of_mem (List.mem_of_getElem? hq)
      have hgood := (hP.good q.1 hqx).1
      have hlen := (hP.short hqx).2
      have hgg : g.StaysIn g9 := stays_trans hg1 (stays_trans hg1' (stays_trans hg6 (stays_trans hg7 (stays_trans hg8 hgx))))
      have B := B.mono hgg
      wtm_at "st"
      wtm_at "tst"
      wtm_at "go"
      have Z0 : CellsAt cenv [] := fun _ h => nomatch h
      refine e_lc Z0 (CompScope.of (fr := []) (ks' := [("sign", .local)]) [] rfl (by kernel_rfl) rfl (by kernel_rfl)) (by wtm_at "less") ?_ (fun _ => rfl)
      intro ZC
      wtm_at "go"
      refine it_str C.tk (by
        rw [Array.all_eq_true_iff_forall_mem]
        intro c hc
        have := hgood c (Array.mem_toList_iff.mpr hc)
        exact decide_eq_true (by omega)) ?_; clear C; intro I2 s u C
      refine lc_plain (Src.str fit.hh) (show q.1.length ≤ 1000 by omega) C.tk H ZC (frs_of Z0 (by wtm_at "frs")) (MapJ fun j => (2 : Int) ^ (q.1.cps.toList.getD j 0 - 97)) .nil ?_ ?_
      · clear C
        intro S2 L2 cenv2 D2 Q4 K4 H Y j v g11 zs s u E4 hE4 hj hv hg11 hJ2 C
        dsimp only [cpOf, List.map] at Y
        obtain ⟨c, uc, hc, rfl⟩ := hv
        have hcr := hgood c (Array.mem_toList_iff.mpr (Array.mem_of_getElem? hc))
        wtm_at "st"
        wtm_at "tst"
        wtm_at "go"
        refine m_args (T := "str") (id := "str.index") PySem.F.plainAttrs_str PySem.F.slot_str_index PySem.F.type_str_index ?_ rfl rfl rfl rfl rfl
        wtm_at "go"
        refine ⟨typeIs_str _ _ _, (fun a h => nomatch h), ?_⟩
        wtm_at "go"
        refine c_sindex hcr.1 hcr.2 ?_
        refine x_pow2 (by omega) (by omega) ?_
        refine hE4.made (stays_refl _) C.tk .here .here (hJ2.snoc ?_)
        rw [Int.toNat_natCast]
        simp [hc]
      · clear C
        rintro g11 s u D2 _ hg11 ⟨hzs⟩ C
        rename_i zs
        wtm_at "go"
        refine c_sum fit.hh C.tk (C.my (.head _)) ?_; clear C; intro s u tp C
        refine hE3.made (strKind_is _ _ q.1 _) hg11 C (.there .here) (.there .here) (hJ.snoc hnd hq ?_)
        rw [hzs]
        exact mask_sum q.1
    · clear C
      rintro g10 s u sd kvs hsz hg10 hJ C
      have hs0 := hsys sd hsz
      rw [List.length_map] at hJ
      obtain ⟨hsk, hsv⟩ := hJ
      rw [List.take_length] at hsk
      obtain ⟨g11, C, hg11, hsd⟩ := C.freeze
      have hgy : g9.StaysIn g11 := stays_trans hg10 hg11
      refine k_dcL H (by wtm_at "mem") (by kernel_rfl) Z (CompScope.of (fr := [("rows", L + 1, .ref d)]) (ks' := [("name", .local), ("dict", .globalImplicit)]) ["rows"] rfl (by kernel_rfl) rfl (by kernel_rfl)) (by wtm_at "less") ?_ (fun _ => rfl)
      clear ZC; intro ZC
      wtm_at "go"
      have hl11 := OAt.mono hl hgy
      refine it_list C.tk (C.tk.of hl11).isList ?_; clear C; intro I s u C
      clear hsys
      have hsys := fun D => nsys (D := D) B C
      refine dc_store (strKind prog w) (Src.list fit.hh hl11.isList) (by rw [List.length_map]; omega) C.tk H (by wtm_at "mem") (by wtm_at "drop") ZC (frs_of Z (by wtm_at "frs")) (KeptJ prog w kvr xs) .nil ?_ ?_
      · clear C
        intro S' L' cenv D' Q3 K3 H Y j v g12 kk s u E3 hE3 hj hv hg12 hJ C
        dsimp only [cpOf, List.map] at Y
        obtain ⟨q, hq, rfl⟩ : ∃ q, xs[j]? = some q ∧ sV q = v := by
          rw [List.getElem?_map, Option.map_eq_some_iff] at hv; exact hv
        have hqx : q.1 ∈ xs.map (·.1) := List.mem_map_of_mem (List.mem_of_getElem? hq)
        obtain ⟨vr, hvr⟩ := valueAt_of_key (kvs := kvr) (x := q.1) (by rw [hkr]; exact hqx)
        obtain ⟨r, kws, rfl, hr0, hrD, hrI, hrN⟩ := hrow _ (valueAt_mem hvr)
        have hgg : g.StaysIn g11 := stays_trans hg1 (stays_trans hg1' (stays_trans hg6 (stays_trans hg7 (stays_trans hg8 (stays_trans hgx hgy)))))
        have B := B.mono hgg
        have hrD12 : g12.DictOf (strKind prog w) r kws := hrD.at ((stays_trans hgy hg12) _)
        wtm_at "st"
        wtm_at "tst"
        wtm_at "go"
        refine d_itemS (hdD.at fun _ e => C.gh _ _ (hg12 _ _ (hgy _ _ e))) hvr ?_; intro m1
        wtm_at "go"
        have hkl : kws.length ≤ 1000 := by
          have h1 := congrArg List.length hrN
          rw [numD, List.length_map] at h1
          unfold rowOf at h1
          rw [List.length_map] at h1
          have h2 := List.length_filter_le (fun y => decide (y ≠ (q.1, Value.ref r).1)) (xs.map (·.1))
          rw [List.length_map] at h2
          omega
        refine c_dict B C.tk (hrD12.at fun _ e => C.gh _ _ e) hr0 hkl ?_; clear C; intro s u r' hr0' C
        have hne : r ≠ r' := fun e => by
          obtain ⟨_, h1, _, _⟩ := C.own _ (.head _)
          obtain ⟨o, _, _, e', _⟩ := hrD12
          have h1 : g12.get? r' = none := h1
          rw [← e, e'] at h1; cases h1
        obtain ⟨g13, C, hg13, hO⟩ := C.freeze
        exact hE3.made (strKind_is _ _ q.1 _) hg13 C .here .here (hJ.snoc hnd hg13 hq hvr hne hr0 hr0' (hrD12.at (hg13 _)) (OAt.dict hO))
      · clear C
        rintro g12 s u kd kk hsz2 hg12 hJ C
        have hk0 := hsys kd hsz2
        rw [List.length_map] at hJ
        obtain ⟨hkk, hkept⟩ := hJ
        rw [List.take_length] at hkk
        obtain ⟨g13, C, hg13, hkd⟩ := C.freeze
        have hgz : g9.StaysIn g13 := stays_trans hgy (stays_trans hg12 hg13)
        refine k_two ?_ rfl rfl rfl
        wtm_at "go"
        have hg5 : g5.StaysIn g13 := stays_trans hg6 (stays_trans hg7 (stays_trans hg8 (stays_trans hgx hgz)))
        have hplx : ∀ (j : Nat) q, xs[j]? = some q → (xs.map (·.1)).idxOf q.1 = j := fun j q h => by
          obtain ⟨h1, rfl⟩ := List.getElem?_eq_some_iff.mp h
          have := hnd.idxOf_getElem (i := j) (by simpa using h1)
          rwa [List.getElem_map] at this
        refine (called_ct (pl := fun x => (xs.map (·.1)).idxOf x) (B.mono C.af.gg) (hrw.mono hgz) (hl.mono hgz) hnd hx5 (fun q hq => (htok q hq).1) hap (hc.keeps hg5) (OAt.mono hsl (stays_trans hgg5 hg5)) (OAt.mono hT1 (stays_trans hg3 (stays_trans hg4 (stays_trans hgg5 hg5)))) (OAt.mono hT2 (stays_trans hg4 (stays_trans hgg5 hg5))) htn hplx).use fit (by decide) C.tk ?_; clear C
        rintro _ g14 s u C hg14 ⟨T, ln, pu, ys, kvp, rfl, hT, hln, hCd, hpu0, hpuD, hpuI, hpuN⟩
        have hperm : ys.Perm xs := by have := hCd.perm hnd; rwa [List.append_nil] at this
        have hPv : Part (ys.map (·.1)) := hP.perm (hperm.map _)
        have hys : ys.length = xs.length := hperm.length_eq
        have hOrd : ∀ (i k : Nat) q q', i ≤ k → ys[i]? = some q → ys[k]? = some q' → gtP (pullI (tieW (tieI D)) ((ys.map (·.1)).take i) q'.1) (tn * ((xs.map (·.1)).idxOf q'.1 : Nat)) (pullI (tieW (tieI D)) ((ys.map (·.1)).take i) q.1) (tn * ((xs.map (·.1)).idxOf q.1 : Nat)) = false := fun i k q q' hik hi hk => by
          rw [← List.map_take]
          refine hCd.ord i q hi q' ?_
          rw [List.append_nil]
          exact List.mem_of_getElem? (i := k - i) (by rw [List.getElem?_drop, show i + (k - i) = k by omega]; exact hk)
        refine a_two fit.hh C.tk (C.tk.of hT) ?_; clear C; intro s u C
        refine a_name ?_
        wtm_at "st"
        refine a_name ?_
        wtm_at "go"
        refine l_list ?_
        wtm_at "go"
        refine ⟨Nat.le_of_ble_eq_true rfl, _, _, _, _, C.tk, ?_⟩; clear C; intro s u T4 C
        wtm_at "go"
        have hgt : g9.StaysIn g14 := stays_trans hgz hg14
        have hg15' : g5.StaysIn g14 := stays_trans hg5 hg14
        refine l_item (show s.heap.IsList ce _ from OAt.mono hce (stays_trans hg1' (stays_trans hg15' C.gh))) (by decide) (by decide) e15 ?_
        wtm_at "go"
        obtain ⟨td2, hdir2⟩ := (pick2 (-1) 1 _ _).2 rfl rfl
        refine l_item (OAt.isList (C.my (.head _))) hm2.1 (by omega) hdir2 ?_
        replace C := C.drop
        wtm_at "go"
        have hcul : cu.length = 32 := by
          have := congrArg List.length hcu
          simpa using this
        have hg6t : g6.StaysIn g14 := stays_trans hg7 (stays_trans hg8 (stays_trans hgx hgt))
        have hyx : ∀ q ∈ ys, ∃ j, xs[j]? = some q ∧ j < xs.length := fun q hq => by
          obtain ⟨j, hj⟩ := List.getElem?_of_mem (hperm.mem_iff.mp hq)
          exact ⟨j, hj, (List.getElem?_eq_some_iff.mp hj).1⟩
        have hys5 : ys.length ≤ 5 := by omega
        have hyk : ∀ {k : Nat} {q : Str × Tok}, ys[k]? = some q → (ys.map (·.1))[k]? = some q.1 := fun h => by rw [List.getElem?_map, h]; rfl
        have hsd' : ∀ {h' : Heap}, g11.StaysIn h' → h'.DictOf (strKind prog w) sd kvs := fun k => (OAt.dict hsd).at (k _)
        have hgu : g11.StaysIn g14 := stays_trans hg12 (stays_trans hg13 hg14)
        refine (turn_ct (S := mI) (pl := fun x => (xs.map (·.1)).idxOf x) (B.mono C.af.gg) (OAt.mono hcut hg6t) hcul (hsd' hgu) hs0 (by have := congrArg List.length hsk; simp only [List.length_map] at this; omega) hln hys5 (by rcases htn with h | h <;> rw [h] <;> decide)
          (fun q hq => by obtain ⟨j, hj, hjl⟩ := hyx q hq; exact hsv j q hjl hj) (fun q hq => by obtain ⟨j, hj, _⟩ := hyx q hq; rw [hsk, hplx j q hj, List.getElem?_map, hj]; rfl)
          (fun i _ => called_in hPv i) (fun q hq => by have := (hPv.good q.1 (List.mem_map_of_mem hq)).2.1; unfold mI; omega) (fun i k q hik hk => called_in2 hPv hik (hyk hk)) (fun i k q q' hik hi hk => ?_)).use fit (by decide) C.tk ?_
        · rw [callX_pull (tieI_symm D) hcu hPv hik (hyk hk), callX_pull (tieI_symm D) hcu hPv (Nat.le_refl i) (hyk hi), gtP_twice]
          exact hOrd i k q q' hik hi hk
        clear C
        rintro _ g15 s u C hg15 rfl
        wtm_at "go"
        refine ⟨fun hb => absurd hb (by decide), fun _ => ?_⟩
        wtm_at "go"
        obtain ⟨us, bq, eq, rfl⟩ := last_two (l := ys) (by omega)
        have hul : us.length + 2 = xs.length := by rw [← hys, List.length_append]; rfl
        have hln15 : OAt g15 ln (isPL ((us ++ [bq, eq]).map sV)) := OAt.mono hln hg15
        have hlen : ((us ++ [bq, eq]).map sV).length = us.length + 2 := by rw [List.length_map, List.length_append]; rfl
        refine l_itemneg (C.tk.of hln15).isList (by decide) (by rw [hlen]; omega) (by decide) (v := sV bq) (by rw [hlen, List.getElem?_map, show (-2 + ((us.length + 2 : Nat) : Int)).toNat = us.length by omega, List.getElem?_append_right (Nat.le_refl _), Nat.sub_self]; rfl) ?_
        wtm_at "go"
        refine l_itemneg (C.tk.of hln15).isList (by decide) (by rw [hlen]; omega) (by decide) (v := sV eq) (by rw [hlen, List.getElem?_map, show (-1 + ((us.length + 2 : Nat) : Int)).toNat = us.length + 1 by omega, List.getElem?_append_right (Nat.le_succ _), show us.length + 1 - us.length = 1 by omega]; rfl) ?_
        wtm_at "st"
        have hgv : g9.StaysIn g15 := stays_trans hgt hg15
        have hl15 : OAt g15 l (isPL (xs.map sV)) := hl.mono hgv
        refine k_lcL H (by wtm_at "mem") (by kernel_rfl) Z (CompScope.of (fr := [("before", L + 1 + 1, sV bq), ("last", L + 1 + 1 + 1, sV eq)]) (ks' := [("name", .local)]) ["before", "last"] rfl (by kernel_rfl) rfl (by kernel_rfl)) (by wtm_at "less") ?_ (fun _ => rfl)
        clear ZC; intro ZC
        wtm_at "go"
        refine it_list C.tk (C.tk.of hl15).isList ?_; clear C; intro I s u C
        refine lc_store (Src.list fit.hh hl15.isList) (by rw [List.length_map]; omega) C.tk H (by wtm_at "mem") (by wtm_at "drop") ZC (frs_of Z (by wtm_at "frs")) (OthJ xs bq.1 eq.1) .mk ?_ ?_
        · clear C
          intro S' L' cenv D' Q5 K5 H Y j v g16 vs s u E5 hE5 hj hv hg16 hJ C
          dsimp only [cpOf, List.map] at Y
          obtain ⟨z, hz, rfl⟩ : ∃ z, xs[j]? = some z ∧ sV z = v := by
            rw [List.getElem?_map, Option.map_eq_some_iff] at hv; exact hv
          cases hJ
          wtm_at "st"
          wtm_at "tst"
          wtm_at "go"
          have key := OthJ.mk (xs := xs) (x := bq.1) (y := eq.1) (j := j + 1) (g := g16)
          rw [take_snoc hz, List.filter_append] at key
          refine ⟨fun hb => ?_, fun hb => ⟨fun h => absurd h (by decide), fun _ => ?_⟩⟩
          · have hne : z.1 ≠ bq.1 := by simpa using hb
            wtm_at "go"
            refine ⟨fun hb => ?_, fun hb => ⟨fun h => absurd h (by decide), fun _ => ?_⟩⟩
            · have hne2 : z.1 ≠ eq.1 := by simpa using hb
              wtm_at "go"
              refine ⟨fun _ => ?_, fun h => absurd h (by decide)⟩
              wtm_at "go"
              refine hE5.made (stays_refl _) C .here .here ?_
              rwa [List.filter_cons_of_pos (by simp [hne, hne2]), List.filter_nil, List.map_append] at key
            · have hne2 : z.1 = eq.1 := by simpa using hb
              refine hE5.skip (stays_refl _) C .here .here ?_
              rwa [List.filter_cons_of_neg (by simp [hne2]), List.filter_nil, List.append_nil] at key
          · have hne : z.1 = bq.1 := by simpa using hb
            refine hE5.skip (stays_refl _) C .here .here ?_
            rwa [List.filter_cons_of_neg (by simp [hne]), List.filter_nil, List.append_nil] at key
        · clear C
          rintro g16 s u ol vs hg16 hJ C
          rw [List.length_map] at hJ
          cases hJ
          rw [List.take_length] at C
          obtain ⟨g17, C, hg17, hol⟩ := C.freeze
          have hTs := tieI_symm D
          rw [List.map_append] at hPv hpuN hOrd
          replace hPv : Part (us.map (·.1) ++ [bq.1, eq.1]) := hPv
          have hnv : (us.map (·.1) ++ [bq.1, eq.1]).Nodup := hPv.nodup
          have hpn : (us.map (·.1) ++ [bq.1, eq.1]).Perm (xs.map (·.1)) := by have := hperm.map (·.1); rwa [List.map_append] at this
          obtain ⟨os, hos⟩ : ∃ os, os = xs.filter fun z => decide (z.1 ≠ bq.1) && decide (z.1 ≠ eq.1) := ⟨_, rfl⟩
          rw [← hos] at hol
          have hosu : os.Perm us := by
            rw [hos]
            refine (hperm.symm.filter _).trans ?_
            rw [List.filter_append, List.filter_cons_of_neg (by simp), List.filter_cons_of_neg (by simp), List.filter_nil, List.append_nil, List.filter_eq_self.mpr fun z hz => ?_]
            rw [List.nodup_append] at hnv
            have h1 := hnv.2.2 z.1 (List.mem_map_of_mem hz) bq.1 (.head _)
            have h2 := hnv.2.2 z.1 (List.mem_map_of_mem hz) eq.1 (.tail _ (.head _))
            simp [h1, h2]
          have hosx : ∀ q ∈ os, q ∈ xs ∧ q.1 ≠ bq.1 ∧ q.1 ≠ eq.1 := fun q hq => by
            rw [hos, List.mem_filter] at hq
            simpa using hq
          have hbx : bq ∈ xs := hperm.mem_iff.mp (List.mem_append_right _ (.head _))
          have hex : eq ∈ xs := hperm.mem_iff.mp (List.mem_append_right _ (.tail _ (.head _)))
          have hosl : os.length ≤ 3 := by rw [hosu.length_eq]; omega
          have hle : (us.map (·.1) ++ [bq.1, eq.1]).dropLast = us.map (·.1) ++ [bq.1] := by
            rw [show us.map (·.1) ++ [bq.1, eq.1] = (us.map (·.1) ++ [bq.1]) ++ [eq.1] by simp, List.dropLast_concat]
          replace hpuN : numD kvp = pullD (tieW (tieI D)) (xs.map (·.1)) (us.map (·.1) ++ [bq.1]) := hpuN.trans (congrArg _ hle)
          have hen : eq.1 ∉ us.map (·.1) ++ [bq.1] := by
            rw [show us.map (·.1) ++ [bq.1, eq.1] = (us.map (·.1) ++ [bq.1]) ++ [eq.1] by simp, List.nodup_append] at hnv
            exact fun h => hnv.2.2 _ h _ (.head _) rfl
          have hexn : eq.1 ∈ xs.map (·.1) := List.mem_map_of_mem hex
          obtain ⟨tpl, hpl⟩ := look_some hpuI (x := eq.1) (by rw [hpuN]; exact pull_key hexn hen (by simp))
          rw [hpuN, pull_look hnd hexn hen] at hpl
          have hlast : HasI kvs mI eq.1 := by
            obtain ⟨j, hj⟩ := List.getElem?_of_mem hex
            exact hsv j eq (List.getElem?_eq_some_iff.mp hj).1 hj
          have hown := own_cut hTs hcu hPv
          have hlo := fun k => least_ok (k := k) hTs (tieI_pos D) hcu hPv (hosu.map _) (by rw [List.nodup_append] at hnv; exact hnv.1) (by rw [List.length_map]; omega) (os := os.map (·.1)) fun i k x y hik hi hk => by
            have name : ∀ {j : Nat} {z : Str}, (us.map (·.1) ++ [bq.1, eq.1])[j]? = some z → ∃ q, (us ++ [bq, eq])[j]? = some q ∧ q.1 = z := fun {j z} h => by
              have h : ((us ++ [bq, eq]).map (·.1))[j]? = some z := by rw [List.map_append]; exact h
              rw [List.getElem?_map, Option.map_eq_some_iff] at h; exact h
            obtain ⟨q, hq, rfl⟩ := name hi
            obtain ⟨q', hq', rfl⟩ := name hk
            have := hOrd i k q q' hik hq hq'
            rw [gtP_no] at this
            have e : (us.map (·.1) ++ [bq, eq].map (·.1)) = us.map (·.1) ++ [bq.1, eq.1] := rfl
            rw [e] at this
            rcases this with h | h
            · exact Int.le_of_lt h
            · exact Int.le_of_eq h.1
          wtm_at "go"
          have hgw : g15.StaysIn g17 := stays_trans hg16 hg17
          have hpuD17 : g17.DictOf (strKind prog w) pu kvp := hpuD.at ((stays_trans hg15 hgw) _)
          refine d_itemS (hpuD17.at fun _ e => C.gh _ _ e) hpl ?_; intro m1
          wtm_at "go"
          have hcut17 := OAt.mono hcut (stays_trans hg6t (stays_trans hg15 hgw))
          have hsd17 := hsd' (stays_trans hgu (stays_trans hg15 hgw))
          refine (least_ct (S := mI) (B.mono C.af.gg) hcut17 hcul hsd17 hol hosl hlast (fun q hq => by
            obtain ⟨j, hj⟩ := List.getElem?_of_mem (hosx q hq).1
            exact hsv j q (List.getElem?_eq_some_iff.mp hj).1 hj) (fun k hk => (hlo k hk).1)).use fit (by decide) C.tk ?_; clear C
          rintro _ g18 s u C hg18 ⟨m, tm, rfl, hm, hmin⟩
          have hmP : m = pullI (tieW (tieI D)) (us.map (·.1) ++ [bq.1]) eq.1 := by
            obtain ⟨k, hk, rfl⟩ := List.mem_map.mp hm
            have h1 : _ ≤ at32 cu k := (hlo k hk).2
            have h2 := hmin (at32 cu (mI eq.1)) (List.mem_map.mpr ⟨_, tolds_self _ _ _, rfl⟩)
            rw [← hown] at h1 ⊢
            exact Int.le_antisymm h2 h1
          wtm_at "go"
          refine ⟨fun hb => absurd hb (by rw [hmP]; simp), fun _ => ?_⟩
          wtm_at "go"
          obtain ⟨ve, hve⟩ := valueAt_of_key (kvs := kvr) (x := eq.1) (by rw [hkr]; exact hexn)
          obtain ⟨re, kwe, rfl, hre, hreD, hreI, hreN⟩ := hrow _ (valueAt_mem hve)
          replace hreN : numD kwe = rowOf (tieW (tieI D)) (xs.map (·.1)) eq.1 := hreN
          have hgq : g9.StaysIn g18 := stays_trans hgv (stays_trans hgw hg18)
          refine d_itemS (hdD.at fun _ e => C.gh _ _ (hgq _ _ e)) hve ?_; intro m1
          wtm_at "go"
          refine (count_ct (B.mono C.af.gg) hre (hreD.at (hgq _)) hreI).use fit (by decide) C.tk ?_; clear C
          rintro _ g19 s u C hg19 ⟨tc, rfl⟩
          have hsum : sumI kwe = pullI (tieW (tieI D)) (us.map (·.1) ++ [bq.1]) eq.1 := by
            rw [← row_sum hTs hpn hnv, ← hreN]
            unfold numD sumI
            rw [List.map_map]; rfl
          wtm_at "go"
          refine d_itemS (hpuD17.at fun _ e => C.gh _ _ (hg19 _ _ (hg18 _ _ e))) hpl ?_; intro m2
          wtm_at "go"
          refine ⟨fun hb => absurd hb (by rw [hsum]; simp), fun _ => ?_⟩
          wtm_at "go"
          refine ⟨fun h => absurd h (by decide), fun _ => ?_⟩
          wtm_at "go"
          intro hN
          replace hN : N1 ≤ m2 := hN
          refine Then.next ?_
          wtm_at "go"
          have hx2 := hPv.short (x := bq.1) (List.mem_append_right _ (.head _))
          have hy2 := hPv.short (x := eq.1) (List.mem_append_right _ (.tail _ (.head _)))
          have hN2 : 2 ≤ N1 := by have := htk1 eq hex; omega
          refine concat_str_ct (N := N1 - 1) (B.mono C.af.gg) hx2.1 hy2.1 (by omega) fit (by decide) C.tk.gh (show N1 - 1 + 1 ≤ m2 by omega) ?_
          intro g20 s20 t hA ht1 ht2
          replace C := C.tk.after hA
          have hg20 := hA.gg
          clear hA
          refine WP.ge (n := t + 1) ht2 ?_
          change WP _ _ _ _ _ (tk s20 s20.toks)
          wtm_at "st"
          intro ht3
          refine execs_ge (N := t + 1) (a := [_, _, _, _]) (b := []) ht3 ?_
          clear ht3 ht2
          obtain ⟨hPj, hdis⟩ := hPv.join
          have hx3 := hPv.good bq.1 (List.mem_append_right _ (.head _))
          have hy3 := hPv.good eq.1 (List.mem_append_right _ (.tail _ (.head _)))
          have hadd := fun z => tieW_add (T := tieI D) hTs (z := z) hx3.2.1 hy3.2.1 hdis
          have hou : ∀ q ∈ os, q.1 ∈ us.map (·.1) := fun q hq => List.mem_map_of_mem (hosu.mem_iff.mp hq)
          have hbo : ∀ q ∈ os, q.1 ≠ bq.1 ++ eq.1 := fun q hq => hPj.ne (hou q hq) (.head _)
          have hgr : g9.StaysIn g20 := stays_trans hgq (stays_trans hg19 hg20)
          have hg17r : g17.StaysIn g20 := stays_trans hg18 (stays_trans hg19 hg20)
          wtm_at "go"
          refine (joined_ct (W := tieW (tieI D)) (B.mono C.af.gg) (hrw.mono hgr) (OAt.mono hol hg17r) (by rw [List.length_map]; exact hx5) (by omega) ((hosu.map (·.1)).nodup_iff.mpr (by rw [List.nodup_append] at hnv; exact hnv.1)) hnd (fun q hq => List.mem_map_of_mem (hosx q hq).1) (List.mem_map_of_mem hbx) hexn
            (fun q hq => (hosx q hq).2.1) (fun q hq => (hosx q hq).2.2) hbo (fun q _ => (hadd q.1).2) (fun q _ => (hadd q.1).1)).use fit (by decide) C.tk ?_; clear C
          rintro _ g21 s u C hg21 ⟨r, rfl, hrw2⟩
          wtm_at "go"
          refine x_addstr (fits _ (by rw [Str.length_append]; omega)) ?_; intro t5 u5
          wtm_at "go"
          refine ⟨fun hb => absurd hb (by simp), fun _ => ?_⟩
          wtm_at "go"
          have hg20r : g9.StaysIn g21 := stays_trans hgr hg21
          have hkd21 : g21.DictOf (strKind prog w) kd kk := (OAt.dict hkd).at ((stays_trans hg14 (stays_trans hg15 (stays_trans hgw (stays_trans hg18 (stays_trans hg19 (stays_trans hg20 hg21)))))) _)
          refine c_same fit.units hd0 hk0 (hdD.at fun _ e => C.gh _ _ (hg20r _ _ e)) (hkd21.at fun _ e => C.gh _ _ e) (by have h1 := congrArg List.length hkr; have h2 := congrArg List.length hkk; rw [List.length_map] at h1 h2; omega) (fun q hq => ?_) ?_
          · obtain ⟨j, hj⟩ : ∃ j : Nat, (xs.map (·.1))[j]? = some q.1 := List.getElem?_of_mem (by rw [← hkr]; exact List.mem_map_of_mem hq)
            rw [List.getElem?_map, Option.map_eq_some_iff] at hj
            obtain ⟨z, hz, hzq⟩ := hj
            obtain ⟨r1, r2, kws, h1, h2, h3, h4, h5, h6, h7⟩ := hkept j z (List.getElem?_eq_some_iff.mp hz).1 hz
            rw [hzq] at h1 h2
            rw [valueAt_in (by rw [hkr]; exact hnd) hq] at h1
            have hgg21 : g12.StaysIn g21 := stays_trans hg13 (stays_trans hg14 (stays_trans hg15 (stays_trans hgw (stays_trans hg18 (stays_trans hg19 (stays_trans hg20 hg21))))))
            refine ⟨_, h2, fun E Q hq => ?_⟩
            rw [Option.some.inj h1]
            exact eq_copy fit.units1 h4 h5 h3 (h6.at fun _ e => C.gh _ _ (hgg21 _ _ e)) (h7.at fun _ e => C.gh _ _ (hgg21 _ _ e)) hq
          wtm_at "go"
          refine ⟨fun h => absurd h (by decide), fun _ => ?_⟩
          wtm_at "go"
          refine m_inst (C := 38) (f := 35) B (by kernel_rfl) (by kernel_rfl) (by kernel_rfl) (by kernel_rfl) ?_ rfl rfl rfl rfl rfl
          wtm_at "go"
          have hg5s : g5.StaysIn g21 := stays_trans hg5 (stays_trans hg14 (stays_trans hg15 (stays_trans hgw (stays_trans hg18 (stays_trans hg19 (stays_trans hg20 hg21))))))
          refine ⟨c, _, _, _, _, "comp_select_list", .ref sl, rfl, rfl, C.tk, hc.keeps hg5s, by decide +kernel, ?_⟩
          wtm_at "go"
          have hln21 : OAt g21 ln (isPL ((us ++ [bq, eq]).map sV)) := OAt.mono hln15 (stays_trans hgw (stays_trans hg18 (stays_trans hg19 (stays_trans hg20 hg21))))
          have hitem : ∀ (A : Around) (s : Shared) (n : Nat) (Q E : Value → Shared → Prop) (value : Expr) (ip : Pos) (k : Nat) (u : Tok), k < 2 → g21.StaysIn s.heap → Q (sV ((us ++ [bq, eq]).getD k bq)) (tk s n) → WP (model prog w) A (subscriptTail value (.Name "index" ip) (.ref ln) (.int (k : Nat) u)) Q E (tk s n) := fun A s n Q E value ip k u hk hg h => by
            have h2 : k < (us ++ [bq, eq]).length := by rw [List.length_append]; simp only [List.length_cons, List.length_nil]; omega
            refine l_item (show s.heap.IsList ln _ from (OAt.mono hln21 hg).isList) (by omega) (by omega) (map_get (a := (us ++ [bq, eq]).getD k bq) (by rw [Int.toNat_natCast, List.getD_eq_getElem?_getD, List.getElem?_eq_getElem h2]; rfl)) h
          refine (compare_ct (lt := fun _ => false) (gt := fun _ => false) (B.mono C.af.gg) (fun k => sV ((us ++ [bq, eq]).getD k bq)) (fun k => sV ((us ++ [bq, eq]).getD k bq)) (hc.keeps hg5s) (OAt.mono hsl (stays_trans hgg5 hg5s)) (OAt.mono hT1 (stays_trans hg3 (stays_trans hg4 (stays_trans hgg5 hg5s)))) (OAt.mono hT2 (stays_trans hg4 (stays_trans hgg5 hg5s))) hitem hitem
            (fun A s Q E k _ h => c_lts (by rw [decide_eq_false (List.lt_irrefl _)]; exact h)) (fun A s Q E k _ h => c_gts (by rw [decide_eq_false (List.lt_irrefl _)]; exact h))).use fit (by decide) C.tk ?_; clear C
          rintro _ g22 s u C hg22 ⟨tcm, rfl⟩
          wtm_at "go"
          refine ⟨fun hb => absurd hb (by simp [cmpv]), fun _ => ?_⟩
          wtm_at "go"
          refine ⟨fun h => absurd h (by decide), fun _ => ?_⟩
          wtm_at "go"
          refine l_list ?_
          wtm_at "go"
          refine ⟨Nat.le_of_ble_eq_true rfl, _, _, _, _, C.tk, ?_⟩; clear C; intro s u bl C
          refine l_add (C.tk.of (OAt.mono hol (stays_trans hg17r (stays_trans hg21 hg22)))) (C.my (.head _)) C.tk (by rw [List.length_map]; simp only [List.length_cons, List.length_nil]; omega) ?_; clear C; intro s u nl C
          obtain ⟨g23, C, hg23, hnl⟩ := C.freeze
          wtm_at "st"
          refine k_nil fun ht6 => Then.next (k_nil ?_)
          obtain ⟨xs', hxs'⟩ : ∃ xs' : List (Str × Tok), xs' = os ++ [(bq.1 ++ eq.1, t)] := ⟨_, rfl⟩
          have hxn' : xs'.map (·.1) = os.map (·.1) ++ [bq.1 ++ eq.1] := by rw [hxs', List.map_append]; rfl
          have hxl' : xs'.length = os.length + 1 := by rw [hxs', List.length_append]; rfl
          have hosu' := hosu.length_eq
          replace hnl : OAt g23 nl (isPL (xs'.map sV)) := by rw [hxs', List.map_append]; exact hnl
          have old : ∀ q ∈ os, q.2 < t := fun q hq => by
            have h1 := htk1 q (hosx q hq).1
            exact Nat.lt_of_lt_of_le (show Nat.lt q.2 (N1 - 1) from Nat.lt_of_succ_le (by have : Nat.succ q.2 + 1 ≤ N1 := h1; omega)) ht1
          refine hnext xs'.length _ (by omega) (.mk (stays_trans hgx (stays_trans hgr (stays_trans hg21 (stays_trans hg22 hg23)))) (by rw [hxn']; exact hrw2.mono (stays_trans hg22 hg23)) hnl (by rw [hxn']; exact hPj.perm ((hosu.map (·.1)).append_right _)) (by omega) (fun q hq => ?_) (fun q hq q' hq' e => ?_)
            ((C.sel (mu' := [(L + 1, isCell (some (.ref r))), (L + 1 + 1, isCell (some (sV bq))), (L + 1 + 1 + 1, isCell (some (sV eq)))]) (by wtm_at "sel")).tk.less (by wtm_at "less")))
          · rw [hxs'] at hq
            rcases List.mem_append.mp hq with hq | hq
            · exact ⟨(htok q (hosx q hq).1).1, Nat.lt_of_lt_of_le (old q hq) (Nat.le_of_succ_le ht6)⟩
            · rw [List.mem_singleton] at hq; subst hq
              exact ⟨Nat.pos_iff_ne_zero.mp (Nat.lt_of_lt_of_le (show 0 < N1 - 1 by omega) ht1), ht6⟩
          · rw [hxs'] at hq hq'
            rcases List.mem_append.mp hq with hq | hq <;> rcases List.mem_append.mp hq' with hq' | hq'
            · exact hap q (hosx q hq).1 q' (hosx q' hq').1 e
            · rw [List.mem_singleton] at hq'; subst hq'
              exact absurd e (Nat.ne_of_lt (old q hq))
            · rw [List.mem_singleton] at hq; subst hq
              exact absurd e.symm (Nat.ne_of_lt (old q' hq'))
            · rw [List.mem_singleton] at hq hq'; rw [hq, hq']
  · rintro s u ⟨g', ls, mu, C⟩
    replace C : Cx _ _ s _ _ := C.tk (t := s.toks)
    wtm_at "go"
    exact hQ _ _ _ (ret _ _ _ C.tk.af rfl)
end
theorem gl_law {w : World} : nsIn (KK w) mainGlobals "law" = some (some (.ref 175)) := by kernel_rfl
theorem ints_are {vs : List Value} {ns : List Int} (h : IntsAre vs ns) : ∃ cs : List (Int × Tok), vs = cs.map iV ∧ cs.length = ns.length := by
  induction h with
  | nil => exact ⟨[], rfl, rfl⟩
  | cons n t _ ih =>
    obtain ⟨cs, rfl, hl⟩ := ih
    exact ⟨(n, t) :: cs, rfl, by simp [hl]⟩
set_option maxHeartbeats 0 in
theorem ends : PySem.Challenge.rw_jc0019_01.Holds := by
  refine hd (kwd := []) (by rfl) (by rfl) (by rfl) ?_
  intro w s₀ s₁ mg mb G Y fa o pm cd doc dV kV ho hd hcd hD hmg hg args vals as hpre hlay hrd hwl hlo
  have KX : (KK w).In s₁.heap := kIn_of Y
  have B : Base (KK w) s₁.heap := ⟨KX, _, _, _, _, topRead_of G.T⟩
  have e := mg_of KX G.T.g gl_law
  replace hmg : mg "law" = some (.ref fa) := hmg
  rw [hmg] at e
  obtain rfl : fa = 175 := by injection e with e; injection e with e
  clear ho hd hcd hD hmg
  wrow_args hpre hlay hrd hwl hlo
  rename_i ns _ _ _ _ _ _ _ a vs _ hL _ _ _ hI _ hcond _
  obtain ⟨cs, rfl, hl⟩ : ∃ cs : List (Int × Tok), vs = cs.map iV ∧ cs.length = ns.length := by
    exact ints_are hI
  have fit : Fit 4 callerA := ⟨rfl, by decide, by decide⟩
  refine (law_ct (prog := rq.prog) B hL (by omega) callerA s₁ _ _ fit (stays_refl _) fun v g' s' x hv => ?_).out
  subst hv
  refine GoodW.toG ⟨.inl ⟨_, .bool true, [], rfl, fun _ => rfl, .bool _, by kernel_rfl, fun h => ⟨.nil, fun _ h => by cases h⟩⟩, x.hh, x.os, x.gens.trans hg⟩
end Mine
theorem PySem.Challenge.cw_jc0019_01_holds : PySem.Challenge.rw_jc0019_01.Holds := by
  exact Mine.ends
