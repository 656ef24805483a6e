import PyProof.Rows.All
import Wide.All
import OpenK.AllK
import Wide.FinOn
import Lean
import PySem.Challenge.RW_bj5016_01

open PySem PySem.W PyProof.Rows
set_option Elab.async false
set_option maxRecDepth 100000

namespace Mine
set_option maxHeartbeats 8000000 in
open_top hd for PySem.Challenge.rw_bj5016_01
end Mine

section
namespace Mine
abbrev P0 : Program := PySem.Challenge.pw_bj5016_01
noncomputable abbrev KF (w : World) : Frag := hd.heap_39 w.params

/-! ## tables, keeping -/
def T4 : List Addr := [342, 350, 377, 437]
def KT (h h' : Heap) : Prop := ∀ b o, b ∉ T4 → h.get? b = some o → h'.get? b = some o
theorem KT.refl (h : Heap) : KT h h := fun _ _ _ e => e
theorem KT.trans {h h' h'' : Heap} (x : KT h h') (y : KT h' h'') : KT h h'' := fun b o n e => y b o n (x b o n e)
theorem KT.of {h h' : Heap} (k : ∀ b o, h.get? b = some o → h'.get? b = some o) : KT h h' := fun b o _ e => k b o e

/-- the text that makes the closure: its place -/
def chopPos : Pos := match (match P0.main.body[12]? with | some (.FunctionDef _ _ b _ _ _ _ _ _ _) => b[1]? | _ => none) with
  | some (.FunctionDef _ _ _ _ _ _ _ _ _ p) => p
  | _ => default
def chopQual : Str := Str.ofString "text_to_multi_tags.<locals>.chop"

structure Tb (h : Heap) (c P : Addr) : Prop where
  go : ∃ ps, h.IsCode c P ps ∧ h.TableAt c P ps ∧ ∀ cv, codeAmong chopPos ps.toList = some cv → P = 342 → ∃ c', cv = .ref c' ∧ c' ∉ T4 ∧ h.CodeRec (.ref c') chopQual

def tabs4 : List (Addr × Addr) := [(346, 342), (354, 350), (381, 377), (441, 437)]

structure Ok (w : World) (h : Heap) : Prop where
  K : (KF w).In h
  g : ∃ mg, h.Ns mainGlobals mg
  b : ∃ mb, h.Ns builtinsNs mb ∧ ∀ x : Str, x ≠ "__name__" → mb x = bootBuiltins x
  lim : h.NoLimit
  bm : ∃ bm ob, bm ≠ builtinsNs ∧ bm ≠ mainGlobals ∧ bm ∉ T4 ∧ h.get? bm = some ob ∧ ob.cls = .type "module" ∧ ob.dict = some builtinsNs ∧ ob.data = .plain ∧ nsIn (KF w) mainGlobals "__builtins__" = some (some (.ref bm))
  tb : ∀ q ∈ tabs4, Tb h q.1 q.2

theorem K_not_T4 (w : World) : ∀ a o, (KF w).lookup a = some o → a ∉ T4 := by
  intro a o e hm
  have h : ∀ b ∈ T4, (KF w).lookup b = none := by
    intro b hb
    simp only [T4, List.mem_cons, List.not_mem_nil, or_false] at hb
    rcases hb with rfl | rfl | rfl | rfl <;> rfl
  rw [h a hm] at e; cases e

theorem Ns.kt {h h' : Heap} {a : Addr} {m : Str → Option Value} (x : h.Ns a m) (n : a ∉ T4) (k : KT h h') : h'.Ns a m :=
  let ⟨o, es, ep, e, r⟩ := x; ⟨o, es, ep, k _ _ n e, r⟩

theorem Ok.keeps {w : World} {h h' : Heap} (x : Ok w h) (k : ∀ b o, h.get? b = some o → h'.get? b = some o) : Ok w h' where
  K := x.K.keeps k
  g := let ⟨m, a⟩ := x.g; ⟨m, a.keeps k⟩
  b := let ⟨m, a, r⟩ := x.b; ⟨m, a.keeps k, r⟩
  lim := x.lim.keeps k
  bm := let ⟨bm, ob, a, b, c, d, r⟩ := x.bm; ⟨bm, ob, a, b, c, k _ _ d, r⟩
  tb := fun q hq => ⟨let ⟨ps, a, b, c⟩ := (x.tb q hq).go; ⟨ps, a.keeps k, b.keeps k, fun cv e1 e2 => let ⟨c', f1, f2, f3⟩ := c cv e1 e2; ⟨c', f1, f2, f3.keeps k⟩⟩⟩

theorem Ok.kt {w : World} {h h' : Heap} (x : Ok w h) (k : KT h h') (tb : ∀ q ∈ tabs4, Tb h' q.1 q.2) : Ok w h' where
  K := fun a o e => k a o (K_not_T4 w a o e) (x.K a o e)
  g := let ⟨m, a⟩ := x.g; ⟨m, Ns.kt a (by decide) k⟩
  b := let ⟨m, a, r⟩ := x.b; ⟨m, Ns.kt a (by decide) k, r⟩
  lim := let ⟨mc, a, b⟩ := x.lim; ⟨mc, Ns.kt a (by decide) k, b⟩
  bm := let ⟨bm, ob, a, b, c, d, r⟩ := x.bm; ⟨bm, ob, a, b, c, k _ _ c d, r⟩
  tb := tb

theorem Ok.t4 {w : World} {h : Heap} (x : Ok w h) : ∀ a ∈ T4, ∃ o, h.get? a = some o := by
  intro a ha
  have : ∃ q ∈ tabs4, q.2 = a := by
    simp only [T4, List.mem_cons, List.not_mem_nil, or_false] at ha
    rcases ha with rfl | rfl | rfl | rfl
    · exact ⟨(346, 342), by decide, rfl⟩
    · exact ⟨(354, 350), by decide, rfl⟩
    · exact ⟨(381, 377), by decide, rfl⟩
    · exact ⟨(441, 437), by decide, rfl⟩
  obtain ⟨q, hq, rfl⟩ := this
  obtain ⟨ps, _, b, _⟩ := (x.tb q hq).go
  exact ⟨_, b.2⟩
theorem Ok.fresh {w : World} {h : Heap} (x : Ok w h) {a : Addr} (e : h.get? a = none) : a ∉ T4 := fun m => by
  obtain ⟨o, q⟩ := x.t4 a m; rw [e] at q; cases q
theorem Ok.size {w : World} {h : Heap} (x : Ok w h) : h.objs.size ∉ T4 := x.fresh (Heap.get?_none_of_le (Nat.le_refl _))


/-! ## frozen objects -/
def iterCls : Value → Bool
  | .type n => n == "list_iterator" || n == "enumerate" || n == "range_iterator"
  | _ => false
def frz (o : Obj) : Bool := match o.data with | .dict .. => false | .cell _ => false | _ => !iterCls o.cls
/-- the object is no code object -/
def notCode (o : Obj) : Prop := ∀ vs, o.data = .fields vs → ∀ q t, vs[1]? ≠ some (.str q t)
theorem notCode.dict {o : Obj} {es n} (h : o.data = .dict es n) : notCode o := fun vs e => by rw [h] at e; cases e
theorem notCode.cell {o : Obj} {v} (h : o.data = .cell v) : notCode o := fun vs e => by rw [h] at e; cases e
theorem notCode.seq {o : Obj} {v n} (h : o.data = .seq v n) : notCode o := fun vs e => by rw [h] at e; cases e
theorem notCode.plain {o : Obj} (h : o.data = .plain) : notCode o := fun vs e => by rw [h] at e; cases e

/-- one address, new since s₀, changed -/
theorem Ok.upd {w : World} {h₀ h h' : Heap} {x : Addr} {o : Obj} (ok₀ : Ok w h₀) (ok : Ok w h) (k : KT h₀ h) (hx : h₀.get? x = none) (ex : h.get? x = some o) (nc : notCode o) (hs : Heap.ExtBut x h h') : Ok w h' ∧ KT h₀ h' := by
  have old : ∀ b o, h₀.get? b = some o → b ≠ x := fun b o e q => by rw [q, hx] at e; cases e
  refine ⟨⟨fun a o e => hs a o (old _ _ (ok₀.K a o e)) (ok.K a o e), ?_, ?_, ?_, ?_, ?_⟩, fun b o n e => hs b o (old _ _ e) (k b o n e)⟩
  · obtain ⟨mg, o, es, ep, e, r⟩ := ok₀.g
    obtain ⟨mg', o', es', ep', e', r'⟩ := ok.g
    exact ⟨mg', o', es', ep', hs _ _ (old _ _ e) e', r'⟩
  · obtain ⟨mb, ⟨o, es, ep, e, _⟩, _⟩ := ok₀.b
    obtain ⟨mb', ⟨o', es', ep', e', r'⟩, r⟩ := ok.b
    exact ⟨mb', ⟨o', es', ep', hs _ _ (old _ _ e) e', r'⟩, r⟩
  · obtain ⟨mb, ⟨o, es, ep, e, _⟩, _⟩ := ok₀.lim
    obtain ⟨mb', ⟨o', es', ep', e', r'⟩, r⟩ := ok.lim
    exact ⟨mb', ⟨o', es', ep', hs _ _ (old _ _ e) e', r'⟩, r⟩
  · obtain ⟨bm, ob, a, b, c, d, d1, d2, d3, d4⟩ := ok.bm
    obtain ⟨bm', ob', a', b', c', d', _, _, _, d4'⟩ := ok₀.bm
    rw [d4] at d4'; cases d4'
    exact ⟨bm, ob, a, b, c, hs _ _ (old _ _ d') d, d1, d2, d3, d4⟩
  · intro q hq
    obtain ⟨ps, a, b, c⟩ := (ok.tb q hq).go
    obtain ⟨ps0, a0, b0, _⟩ := (ok₀.tb q hq).go
    have n1 : q.1 ≠ x := by obtain ⟨⟨o, vs, e, _⟩, _⟩ := b0; exact old _ _ e
    have n2 : q.2 ≠ x := old _ _ b0.2
    refine ⟨ps, a.extBut hs n1 n2, b.extBut hs n1 n2, fun cv e1 e2 => ?_⟩
    obtain ⟨c', f1, f2, cc, oc, vs, tq, g1, g2, g3, g4⟩ := c cv e1 e2
    cases g1
    exact ⟨c', f1, f2, c', oc, vs, tq, rfl, hs _ _ (fun q => by rw [q, ex] at g2; cases g2; exact nc _ g3 _ _ g4) g2, g3, g4⟩
def HS (S : List (Addr × Obj)) (h : Heap) : Prop := ∀ p ∈ S, h.get? p.1 = some p.2 ∧ p.1 ∉ T4 ∧ frz p.2 = true
theorem HS.nil {h : Heap} : HS [] h := fun _ m => nomatch m
theorem HS.kt {S : List (Addr × Obj)} {h h' : Heap} (x : HS S h) (k : KT h h') : HS S h' := fun p m => let ⟨a, b, c⟩ := x p m; ⟨k _ _ b a, b, c⟩
theorem HS.app {S T : List (Addr × Obj)} {h : Heap} (x : HS S h) (y : HS T h) : HS (S ++ T) h := fun p m => (List.mem_append.mp m).elim (x p) (y p)
theorem HS.cons {S : List (Addr × Obj)} {h : Heap} {a : Addr} {o : Obj} (x : HS S h) (e : h.get? a = some o) (n : a ∉ T4) (f : frz o = true) : HS ((a, o) :: S) h := fun p m => by
  rcases List.mem_cons.mp m with rfl | m
  · exact ⟨e, n, f⟩
  · exact x p m
theorem HS.sub {S T : List (Addr × Obj)} {h : Heap} (x : HS S h) (k : ∀ p ∈ T, p ∈ S) : HS T h := fun p m => x p (k p m)

def HD (D : List (Addr × Obj)) (h : Heap) : Prop := ∀ p ∈ D, h.get? p.1 = some p.2 ∧ p.1 ∉ T4
theorem HD.nil {h : Heap} : HD [] h := fun _ m => nomatch m
/-! ## generators kept -/
structure GE (g g' : Array GenState) : Prop where
  bare : (∀ y ∈ g, y.bare = true) → ∀ y ∈ g', y.bare = true
  keep : ∀ (i : Nat) (x : GenState), g[i]? = some x → g'[i]? = some x
theorem GE.refl (g : Array GenState) : GE g g := ⟨fun h => h, fun _ _ e => e⟩
theorem GE.trans {g g' g'' : Array GenState} (x : GE g g') (y : GE g' g'') : GE g g'' := ⟨fun h => y.bare (x.bare h), fun i v e => y.keep i v (x.keep i v e)⟩

/-! ## what a walk leaves as it is -/
structure Mv (N NG : Nat) (s s' : Shared) : Prop where
  heap : ∀ a o, a ∉ T4 → (frz o = true ∨ N ≤ a) → s.heap.get? a = some o → s'.heap.get? a = some o
  gens : ∀ g x, NG ≤ g → s.gens[g]? = some x → s'.gens[g]? = some x
section
variable {N NG : Nat} {s s' : Shared} {S : List (Addr × Obj)}
theorem Mv.refl (s : Shared) : Mv N NG s s := ⟨fun _ _ _ _ e => e, fun _ _ _ e => e⟩
theorem Mv.trans {s'' : Shared} (x : Mv N NG s s') (y : Mv N NG s' s'') : Mv N NG s s'' := ⟨fun a o n q e => y.heap a o n q (x.heap a o n q e), fun g z n e => y.gens g z n (x.gens g z n e)⟩
theorem Mv.le {N' NG' : Nat} (x : Mv N NG s s') (h : N ≤ N') (h2 : NG ≤ NG') : Mv N' NG' s s' := ⟨fun a o n q e => x.heap a o n (q.imp id fun q => Nat.le_trans h q) e, fun g z n e => x.gens g z (Nat.le_trans h2 n) e⟩
theorem Mv.hs (x : Mv N NG s s') (h : HS S s.heap) : HS S s'.heap := fun p m => let ⟨a, b, c⟩ := h p m; ⟨x.heap _ _ b (.inl c) a, b, c⟩
theorem Mv.of (k : KT s.heap s'.heap) (g : GE s.gens s'.gens) : Mv N NG s s' := ⟨fun a o n _ e => k a o n e, fun i x _ e => g.keep i x e⟩
theorem Mv.upd {x : Addr} {o : Obj} {h' : Heap} {t : Nat} (ex : s.heap.get? x = some o) (hx : x < N) (f : frz o = false) (hs : Heap.ExtBut x s.heap h') : Mv N NG s { s with heap := h', toks := t } :=
  ⟨fun a o' _ q e => hs a o' (fun r => by subst r; rw [ex] at e; cases e; rcases q with q | q; · rw [f] at q; cases q
                                          · exact absurd q (Nat.not_le_of_lt hx)) e, fun _ _ _ e => e⟩

end

/-! ## the frame -/
inductive OwB where
  | of (b : Bool)
  | seg (s₀ : Shared) (N g : Nat)
structure Ow where
  b : OwB
  D : List (Addr × Obj)
structure Fx (w : World) (s₀ : Shared) (env : Env) (ow : Ow) (m cm : Str → Option Value) (S : List (Addr × Obj)) (s : Shared) : Prop where
  ok₀ : Ok w s₀.heap
  ok : Ok w s.heap
  kt : KT s₀.heap s.heap
  os : s.os = s₀.os
  ge : GE s₀.gens s.gens
  ns : s.heap.Ns env.locals m
  nsf : s₀.heap.get? env.locals = none
  cell : ∀ n c, env.cells.lookup n = some c → s.heap.IsCell c (cm n)
  cn : ∀ p ∈ env.cells, p.2 ∉ T4
  apart : env.cells.Pairwise fun x y => x.2 ≠ y.2
  own : ow.b = .of true → ∀ p ∈ env.cells, s₀.heap.get? p.2 = none
  has : HS S s.heap
  dd : ∀ p ∈ ow.D, s.heap.get? p.1 = some p.2 ∧ p.1 ∉ T4 ∧ p.1 ≠ env.locals ∧ ∀ q ∈ env.cells, q.2 ≠ p.1
  sg : match ow.b with
    | .of _ => True
    | .seg s₁ N g => env.locals < N ∧ s.gens[g]? = some .running ∧ Mv N (g + 1) s₁ s

/-- what a call gives back -/
structure Ret (w : World) (s : Shared) (R : List (Addr × Obj) → Value → Prop) (v : Value) (s' : Shared) : Prop where
  ok : Ok w s'.heap
  kt : KT s.heap s'.heap
  os : s'.os = s.os
  ge : GE s.gens s'.gens
  has : ∃ S', HS S' s'.heap ∧ R S' v

section
variable {w : World} {s₀ s s' : Shared} {env : Env} {ow : Ow} {m cm : Str → Option Value} {S : List (Addr × Obj)} {R : List (Addr × Obj) → Value → Prop} {v : Value}

theorem Fx.n4 (X : Fx w s₀ env ow m cm S s) : env.locals ∉ T4 := X.ok₀.fresh X.nsf

theorem Fx.cellKT {h h' : Heap} {c : Addr} {v : Option Value} (x : h.IsCell c v) (n : c ∉ T4) (k : KT h h') : h'.IsCell c v := let ⟨o, a, b⟩ := x; ⟨o, k _ _ n a, b⟩

/-- a step that keeps all but the tables -/
theorem Fx.step (X : Fx w s₀ env ow m cm S s) (ok : Ok w s'.heap) (k : KT s.heap s'.heap) (os : s'.os = s.os) (ge : GE s.gens s'.gens) : Fx w s₀ env ow m cm S s' where
  ok₀ := X.ok₀
  ok := ok
  kt := X.kt.trans k
  os := os.trans X.os
  ge := X.ge.trans ge
  ns := Ns.kt X.ns X.n4 k
  nsf := X.nsf
  cell := fun n c e => Fx.cellKT (X.cell n c e) (X.cn _ (mem_of_lookup e)) k
  cn := X.cn
  apart := X.apart
  own := X.own
  has := X.has.kt k
  dd := fun p hp => let ⟨a, b, c⟩ := X.dd p hp; ⟨k _ _ b a, b, c⟩
  sg := by
    have h := X.sg
    cases q : ow.b with
    | of _ => trivial
    | seg s₁ N g =>
      rw [q] at h
      exact ⟨h.1, ge.keep _ _ h.2.1, h.2.2.trans (Mv.of k ge)⟩

theorem Fx.call (X : Fx w s₀ env ow m cm S s) (r : Ret w s R v s') : ∃ S', R S' v ∧ Fx w s₀ env ow m cm (S' ++ S) s' := by
  obtain ⟨S', h, hr⟩ := r.has
  have Y := X.step r.ok r.kt r.os r.ge
  exact ⟨S', hr, { Y with has := h.app Y.has }⟩

theorem Fx.tok (X : Fx w s₀ env ow m cm S s) (t : Nat) : Fx w s₀ env ow m cm S { s with toks := t } := X.step (s' := { s with toks := t }) X.ok (KT.refl _) rfl (GE.refl _)

theorem Fx.grow (X : Fx w s₀ env ow m cm S s) {h' : Heap} {t : Nat} (k : ∀ b o, s.heap.get? b = some o → h'.get? b = some o) : Fx w s₀ env ow m cm S { s with heap := h', toks := t } :=
  X.step (s' := { s with heap := h', toks := t }) (X.ok.keeps k) (KT.of k) rfl (GE.refl _)

theorem Fx.push (X : Fx w s₀ env ow m cm S s) (o : Obj) (t : Nat) (f : frz o = true := by rfl) (nf : o.isFreed = false := by rfl) :
    Fx w s₀ env ow m cm ((s.heap.objs.size, o) :: S) { s with heap := s.heap.push o, toks := t } :=
  have Y := X.grow (h' := s.heap.push o) (t := t) fun b o' e => Heap.get?_push_of_some o e
  { Y with has := Y.has.cons (Heap.get?_push_size _ nf) X.ok.size f }

theorem Fx.more (X : Fx w s₀ env ow m cm S s) {T : List (Addr × Obj)} (h : HS T s.heap) : Fx w s₀ env ow m cm (T ++ S) s := { X with has := h.app X.has }
theorem Fx.less (X : Fx w s₀ env ow m cm S s) {T : List (Addr × Obj)} (h : ∀ p ∈ T, p ∈ S) : Fx w s₀ env ow m cm T s := { X with has := X.has.sub h }

/-- the frame's end -/
theorem Fx.ret (X : Fx w s₀ env ow m cm S s) (h : R S v) : Ret w s₀ R v s := ⟨X.ok, X.kt, X.os, X.ge, S, X.has, h⟩

theorem Fx.dictNot (X : Fx w s₀ env ow m cm S s) {p : Addr × Obj} (hp : p ∈ S) {a : Addr} {o : Obj} (e : s.heap.get? a = some o) (n : frz o = false) : p.1 ≠ a := fun q => by
  obtain ⟨h1, _, h3⟩ := X.has p hp
  rw [q, e] at h1; cases h1; rw [n] at h3; cases h3

theorem Fx.sgL (X : Fx w s₀ env ow m cm S s) {h' : Heap} {t : Nat} (hs : Heap.ExtBut env.locals s.heap h') : match ow.b with
    | .of _ => True
    | .seg s₁ N g => env.locals < N ∧ ({ s with heap := h', toks := t } : Shared).gens[g]? = some .running ∧ Mv N (g + 1) s₁ { s with heap := h', toks := t } := by
  have h := X.sg
  cases q : ow.b with
  | of _ => trivial
  | seg s₁ N g =>
    rw [q] at h
    obtain ⟨oL, es, ep, eL, dL, _⟩ := id X.ns
    exact ⟨h.1, h.2.1, h.2.2.trans (Mv.upd (t := t) eL h.1 (by unfold frz; rw [dL]) hs)⟩

theorem Fx.storeL (X : Fx w s₀ env ow m cm S s) {h' : Heap} {t : Nat} {m' : Str → Option Value} (hn : h'.Ns env.locals m') (hs : Heap.SameBut env.locals s.heap h') : Fx w s₀ env ow m' cm S { s with heap := h', toks := t } := by
  obtain ⟨oL, es, ep, eL, dL, _⟩ := id X.ns
  have kk : ∀ b o, b ≠ env.locals → s.heap.get? b = some o → h'.get? b = some o := fun b o n e => hs.extBut b o n e
  have fL : frz oL = false := by unfold frz; rw [dL]
  obtain ⟨ok', kt'⟩ := X.ok₀.upd X.ok X.kt X.nsf eL (.dict dL) hs.extBut
  refine ⟨X.ok₀, ok', kt', X.os, X.ge, hn, X.nsf, ?_, X.cn, X.apart, X.own, ?_, ?_, X.sgL hs.extBut⟩
  · intro n c e
    obtain ⟨o, ho, hd⟩ := X.cell n c e
    exact ⟨o, kk _ _ (fun q => by rw [q, eL] at ho; cases ho; rw [dL] at hd; cases hd) ho, hd⟩
  · intro p hp
    obtain ⟨h1, h2, h3⟩ := X.has p hp
    exact ⟨kk _ _ (X.dictNot hp eL fL) h1, h2, h3⟩
  · intro p hp
    obtain ⟨h1, h2, h3, h4⟩ := X.dd p hp
    exact ⟨kk _ _ h3 h1, h2, h3, h4⟩

theorem Fx.storeC {D : List (Addr × Obj)} (X : Fx w s₀ env ⟨.of true, D⟩ m cm S s) {h' : Heap} {n : Str} {c : Addr} (hc : env.cells.lookup n = some c) (hv : h'.IsCell c (some v)) (hs : Heap.SameBut c s.heap h') :
    Fx w s₀ env ⟨.of true, D⟩ m (fun y => if y = n then some v else cm y) S { s with heap := h' } := by
  obtain ⟨oL, es, ep, eL, dL, _⟩ := id X.ns
  obtain ⟨oc, ec, dc⟩ := X.cell n c hc
  have cf : s₀.heap.get? c = none := X.own rfl _ (mem_of_lookup hc)
  have kk : ∀ b o, b ≠ c → s.heap.get? b = some o → h'.get? b = some o := fun b o n e => hs.extBut b o n e
  have fc : frz oc = false := by unfold frz; rw [dc]
  have Lc : env.locals ≠ c := fun q => by rw [q, ec] at eL; cases eL; rw [dc] at dL; cases dL
  obtain ⟨ok', kt'⟩ := X.ok₀.upd X.ok X.kt cf ec (.cell dc) hs.extBut
  refine ⟨X.ok₀, ok', kt', X.os, X.ge, X.ns.sameBut hs Lc, X.nsf, ?_, X.cn, X.apart, X.own, ?_, ?_, trivial⟩
  · intro k c' e
    by_cases hk : k = n
    · subst hk; rw [hc] at e; cases e; simpa using hv
    · rw [if_neg hk]
      obtain ⟨o, ho, hd⟩ := X.cell k c' e
      exact ⟨o, kk _ _ (fun q => hk (name_of_addr X.apart (mem_of_lookup e) (q ▸ mem_of_lookup hc))) ho, hd⟩
  · intro p hp
    obtain ⟨h1, h2, h3⟩ := X.has p hp
    exact ⟨kk _ _ (X.dictNot hp ec fc) h1, h2, h3⟩
  · intro p hp
    obtain ⟨h1, h2, h3, h4⟩ := X.dd p hp
    exact ⟨kk _ _ (fun q => h4 _ (mem_of_lookup hc) q.symm) h1, h2, h3, h4⟩

/-- the frame's own changing object changed -/
theorem Fx.updD {x : Addr} {o o' : Obj} {b : Bool} {D : List (Addr × Obj)} (X : Fx w s₀ env ⟨.of b, (x, o) :: D⟩ m cm S s) (hx : s₀.heap.get? x = none) (hD : ∀ p ∈ D, p.1 ≠ x) (hS : ∀ p ∈ S, p.1 ≠ x) (nc : notCode o) {h' : Heap} {t : Nat}
    (he : h'.get? x = some o') (hs : Heap.ExtBut x s.heap h') : Fx w s₀ env ⟨.of b, (x, o') :: D⟩ m cm S { s with heap := h', toks := t } := by
  obtain ⟨e0, e1, e2, e3⟩ := X.dd _ (.head _)
  obtain ⟨ok', kt'⟩ := X.ok₀.upd X.ok X.kt hx e0 nc hs
  refine ⟨X.ok₀, ok', kt', X.os, X.ge, X.ns.extBut hs (Ne.symm e2), X.nsf, ?_, X.cn, X.apart, X.own, ?_, ?_, trivial⟩
  · intro k c' e
    obtain ⟨o, ho, hd⟩ := X.cell k c' e
    exact ⟨o, hs _ _ (fun q => e3 _ (mem_of_lookup e) q) ho, hd⟩
  · intro p hp
    obtain ⟨h1, h2, h3⟩ := X.has p hp
    exact ⟨hs _ _ (hS p hp) h1, h2, h3⟩
  · intro p hp
    rcases List.mem_cons.mp hp with rfl | hp
    · exact ⟨he, e1, e2, e3⟩
    · obtain ⟨h1, h2, h3⟩ := X.dd p (.tail _ hp)
      exact ⟨hs _ _ (hD p hp) h1, h2, h3⟩
theorem Fx.dropD {b : Bool} {D D' : List (Addr × Obj)} (X : Fx w s₀ env ⟨.of b, D⟩ m cm S s) (h : ∀ p ∈ D', p ∈ D) : Fx w s₀ env ⟨.of b, D'⟩ m cm S s := { X with own := X.own, dd := fun p hp => X.dd p (h p hp), sg := trivial }
/-- objects new in this frame's time -/
theorem Fx.addD {b : Bool} {D D' : List (Addr × Obj)} (X : Fx w s₀ env ⟨.of b, D⟩ m cm S s) (h : ∀ p ∈ D', s.heap.get? p.1 = some p.2 ∧ p.1 ∉ T4 ∧ p.1 ≠ env.locals ∧ ∀ q ∈ env.cells, q.2 ≠ p.1) : Fx w s₀ env ⟨.of b, D' ++ D⟩ m cm S s :=
  { X with own := X.own, dd := fun p hp => (List.mem_append.mp hp).elim (h p) (X.dd p), sg := trivial }
/-- an older start -/
theorem Fx.older {s₁ : Shared} (X : Fx w s₀ env ow m cm S s) (ok : Ok w s₁.heap) (kt : KT s₁.heap s₀.heap) (os : s₀.os = s₁.os) (ge : GE s₁.gens s₀.gens) : Fx w s₁ env ow m cm S s :=
  have none : ∀ a, s₀.heap.get? a = none → s₁.heap.get? a = none := fun a e => by
    cases q : s₁.heap.get? a with
    | none => rfl
    | some o => rw [kt a o (X.ok₀.fresh e) q] at e; cases e
  { X with ok₀ := ok, kt := kt.trans X.kt, os := X.os.trans os, ge := ge.trans X.ge, nsf := none _ X.nsf, own := fun h p hp => none _ (X.own h p hp) }
end
end Mine
end

section
open PySem.Calls
namespace Mine
/-- room -/
structure AO (n : Nat) (A : Around) : Prop where
  h : A.handled = none
  d : A.depth + n ≤ 900
  u : A.units + 80 * n ≤ 9800
theorem AO.deeper {d : Nat} {A : Around} (x : AO (d + 1) A) (env : Env) : AO d (A.deeper env) := ⟨x.h, by have := x.d; show A.depth + 1 + d ≤ 900; omega, by have := x.u; show A.units + 3 + 80 * d ≤ 9800; omega⟩
theorem AO.in1 {d : Nat} {A : Around} (x : AO (d + 1) A) : AO d A.in1 := ⟨x.h, by have := x.d; show A.depth + d ≤ 900; omega, by have := x.u; show A.units + 1 + 80 * d ≤ 9800; omega⟩
theorem AO.le {d d' : Nat} {A : Around} (x : AO d A) (h : d' ≤ d) : AO d' A := ⟨x.h, by have := x.d; omega, by have := x.u; omega⟩
theorem AO.room {d : Nat} {A : Around} (x : AO d A) : A.depth < recursionLimit := by have := x.d; show A.depth < 1000; omega
theorem AO.units {d : Nat} {A : Around} (x : AO d A) : A.units < cLine := by have := x.u; show A.units < 9900; omega

section
variable {w : World} {A : Around} {E : Value → Shared → Prop} {s₀ s s' : Shared} {env : Env} {ow : Ow} {m cm : Str → Option Value} {S : List (Addr × Obj)} {R : List (Addr × Obj) → Value → Prop} {v : Value} {x : Str} {pos : Pos} {Q : Value → Shared → Prop}

/-! ## names -/
theorem e_local {M : Model} (X : Fx w s₀ env ow m cm S s) (hl : env.kindOf x = some .local) (hv : m x = some v) (h : Q v s) (hk : env.scope.kind = .function := by rfl) (hd : (x == ("__debug__" : Str)) = false := by decide) :
    wpAny M A (eval (.Name x pos) env) Q E s := wpAny_Name (wpAny_loadName_local hk hl X.ns hv h) hd
theorem e_cell {M : Model} {c : Addr} (X : Fx w s₀ env ow m cm S s) (hl : env.kindOf x = some .cell) (hc : env.cells.lookup x = some c) (hv : cm x = some v) (h : Q v s) (hk : env.scope.kind = .function := by rfl) (hd : (x == ("__debug__" : Str)) = false := by decide) :
    wpAny M A (eval (.Name x pos) env) Q E s := wpAny_Name (wpAny_loadName_cell hk hl hc (hv ▸ X.cell _ _ hc) h) hd
theorem e_free {M : Model} {c : Addr} (X : Fx w s₀ env ow m cm S s) (hl : env.kindOf x = some .free) (hc : env.cells.lookup x = some c) (hv : cm x = some v) (h : Q v s) (hk : env.scope.kind = .function := by rfl) (hd : (x == ("__debug__" : Str)) = false := by decide)
    (hn : (x == ("__classdict__" : Str)) = false := by decide) : wpAny M A (eval (.Name x pos) env) Q E s := wpAny_Name (wpAny_loadName_free hk hl hc (hv ▸ X.cell _ _ hc) h hn) hd
theorem e_global {M : Model} (X : Fx w s₀ env ow m cm S s) (hl : env.kindOf x = some .globalImplicit) (e : nsIn (KF w) mainGlobals x = some (some v)) (h : Q v s) (hg : env.globals = mainGlobals := by rfl) (hk : env.scope.kind = .function := by rfl)
    (hd : (x == ("__debug__" : Str)) = false := by decide) : wpAny M A (eval (.Name x pos) env) Q E s := by
  obtain ⟨mg, g⟩ := X.ok.g
  exact Name_function_global hk hl (loadGlobal_global (env := env) (by rw [hg]; exact g) (mg_of X.ok.K g e) h) hd
theorem e_builtin {M : Model} (X : Fx w s₀ env ow m cm S s) (hl : env.kindOf x = some .globalImplicit) (e : nsIn (KF w) mainGlobals x = some none) (hv : bootBuiltins x = some v) (hn : x ≠ "__name__") (h : Q v s) (hg : env.globals = mainGlobals := by rfl)
    (hb : env.builtins = builtinsNs := by rfl) (hk : env.scope.kind = .function := by rfl) (hd : (x == ("__debug__" : Str)) = false := by decide) : wpAny M A (eval (.Name x pos) env) Q E s := by
  obtain ⟨mg, g⟩ := X.ok.g
  obtain ⟨mb, b, bb⟩ := X.ok.b
  exact Name_function_global hk hl (loadGlobal_builtin (env := env) (by rw [hg]; exact g) (mg_none_of X.ok.K g e) (by rw [hb]; exact b) ((bb x hn).trans hv) h) hd

/-! ## stores -/
theorem s_local {M : Model} {Q : Unit → Shared → Prop} (X : Fx w s₀ env ow m cm S s) (hl : env.kindOf x = some .local) (h : ∀ s', Fx w s₀ env ow (fun y => if y = x then some v else m y) cm S s' → Q () s') (hk : env.scope.kind = .function := by rfl) :
    wpAny M A (storeName env x v) Q E s :=
  wpAny_storeName_local hl X.ns (fun h' hn hs => h _ (X.storeL hn hs)) (by rw [hk]; rfl)
theorem s_cell {M : Model} {Q : Unit → Shared → Prop} {c : Addr} {D : List (Addr × Obj)} (X : Fx w s₀ env ⟨.of true, D⟩ m cm S s) (hl : env.kindOf x = some .cell) (hc : env.cells.lookup x = some c) (h : ∀ s', Fx w s₀ env ⟨.of true, D⟩ m (fun y => if y = x then some v else cm y) S s' → Q () s')
    (hk : env.scope.kind = .function := by rfl) : wpAny M A (storeName env x v) Q E s :=
  wpAny_storeName_cell hk hl hc (X.cell _ _ hc) fun h' hv hs => h _ (X.storeC hc hv hs)

/-! ## made objects -/
theorem n_obj {M : Model} {T : String} {d : Data} (X : Fx w s₀ env ow m cm S s) (h : ∀ a s', Fx w s₀ env ow m cm ((a, { cls := .type T, data := d }) :: S) s' → Q (.ref a) s') (hz : sizeOk d) (f : frz { cls := .type T, data := d } = true := by rfl) (nf : ({ cls := .type T, data := d } : Obj).isFreed = false := by rfl) :
    wpAny M A (newObj (.type T) d) Q E s := wpAny_newObj_type (h _ _ (X.push _ _ f nf)) hz
theorem n_list {M : Model} {vs : List Value} (X : Fx w s₀ env ow m cm S s) (h : ∀ a s', Fx w s₀ env ow m cm ((a, listOf vs.toArray 0) :: S) s' → Q (.ref a) s') (hz : vs.length ≤ sizeLine := by size_fits) : wpAny M A (newList vs) Q E s :=
  wpAny_newObj_type (h _ _ (X.push _ _)) (by show vs.toArray.size ≤ sizeLine; rw [List.size_toArray]; exact hz)
theorem n_tuple {M : Model} {vs : List Value} (X : Fx w s₀ env ow m cm S s) (h : ∀ a s', Fx w s₀ env ow m cm ((a, { cls := .type "tuple", data := .seq vs.toArray }) :: S) s' → Q (.ref a) s') (hz : vs.length ≤ sizeLine := by size_fits) : wpAny M A (newTuple vs) Q E s :=
  wpAny_newObj_type (h _ _ (X.push _ _)) (by show vs.toArray.size ≤ sizeLine; rw [List.size_toArray]; exact hz)

/-! ## ints, texts -/
theorem c_int {M : Model} {i : Int} {k} (X : Fx w s₀ env ow m cm S s) (h : ∀ t s', Fx w s₀ env ow m cm S s' → Q (.int i t) s') : wpAny M A (eval (.Constant (.int i) k pos) env) Q E s := wpAny_Constant_int (h _ _ (X.tok _))
theorem c_str {M : Model} {u : Str} {k} (X : Fx w s₀ env ow m cm S s) (h : ∀ t s', Fx w s₀ env ow m cm S s' → Q (.str u t) s') : wpAny M A (eval (.Constant (.str u) k pos) env) Q E s := wpAny_Constant_str (h _ _ (X.tok _))
theorem o_add {a b : Int} {t u} (X : Fx w s₀ env ow m cm S s) (h : ∀ t s', Fx w s₀ env ow m cm S s' → Q (.int (a + b) t) s') : wpAny (model P0 w) A (binaryOp .Add (.int a t) (.int b u)) Q E s := PyProof.Rows.add_int (h _ _ (X.tok _))
theorem o_sub {a b : Int} {t u} (X : Fx w s₀ env ow m cm S s) (h : ∀ t s', Fx w s₀ env ow m cm S s' → Q (.int (a - b) t) s') : wpAny (model P0 w) A (binaryOp .Sub (.int a t) (.int b u)) Q E s := PyProof.Rows.sub_int (h _ _ (X.tok _))
theorem o_mod {a b : Int} {t u} (X : Fx w s₀ env ow m cm S s) (hb : b ≠ 0) (h : ∀ t s', Fx w s₀ env ow m cm S s' → Q (.int (a.fmod b) t) s') : wpAny (model P0 w) A (binaryOp .Mod (.int a t) (.int b u)) Q E s := mod_int' hb (h _ _ (X.tok _))
theorem o_fdiv {a b : Int} {t u} (X : Fx w s₀ env ow m cm S s) (hb : b ≠ 0) (h : ∀ t s', Fx w s₀ env ow m cm S s' → Q (.int (a.fdiv b) t) s') (hp : Builtin.divisionGoesByPylong a b = false := by exact PyProof.noPylong_of_log2 (by decide +kernel)) : wpAny (model P0 w) A (binaryOp .FloorDiv (.int a t) (.int b u)) Q E s := floordiv_int hb (h _ _ (X.tok _)) (.inl hp)
theorem o_cat {a b : Str} {t u} (X : Fx w s₀ env ow m cm S s) (h : ∀ t s', Fx w s₀ env ow m cm S s' → Q (.str (a ++ b) t) s') (hz : a.length + b.length ≤ sizeLine := by size_fits) : wpAny (model P0 w) A (binaryOp .Add (.str a t) (.str b u)) Q E s :=
  PyProof.Rows.add_str (fun _ _ => h _ _ (X.tok _)) hz
end

/-! ## the frame's words, and names by them -/
structure EnvIs (env : Env) (names : List (Str × NameKind)) : Prop where
  kind : env.scope.kind = .function
  glob : env.globals = mainGlobals
  blt : env.builtins = builtinsNs
  names : env.scope.names = names
theorem EnvIs.kindOf {env : Env} {names : List (Str × NameKind)} (h : EnvIs env names) {x : Str} {k : NameKind} (e : names.lookup x = some k) : env.kindOf x = some k := by
  show env.scope.names.lookup x = some k
  rw [h.names]; exact e

section
variable {w : World} {A : Around} {E : Value → Shared → Prop} {s₀ s s' : Shared} {env : Env} {ow : Ow} {m cm : Str → Option Value} {S : List (Addr × Obj)} {v : Value} {x : Str} {pos : Pos} {Q : Value → Shared → Prop} {names : List (Str × NameKind)} {M : Model}
theorem nm_local (I : EnvIs env names) (X : Fx w s₀ env ow m cm S s) (hl : names.lookup x = some .local) (hd : (x == ("__debug__" : Str)) = false) (hv : m x = some v) (h : Q v s) : wpAny M A (eval (.Name x pos) env) Q E s := e_local X (I.kindOf hl) hv h I.kind hd
theorem nm_cell {c : Addr} (I : EnvIs env names) (X : Fx w s₀ env ow m cm S s) (hl : names.lookup x = some .cell) (hd : (x == ("__debug__" : Str)) = false) (hc : env.cells.lookup x = some c) (hv : cm x = some v) (h : Q v s) : wpAny M A (eval (.Name x pos) env) Q E s := e_cell X (I.kindOf hl) hc hv h I.kind hd
theorem nm_free {c : Addr} (I : EnvIs env names) (X : Fx w s₀ env ow m cm S s) (hl : names.lookup x = some .free) (hd : (x == ("__debug__" : Str)) = false) (hn : (x == ("__classdict__" : Str)) = false) (hc : env.cells.lookup x = some c) (hv : cm x = some v) (h : Q v s) : wpAny M A (eval (.Name x pos) env) Q E s := e_free X (I.kindOf hl) hc hv h I.kind hd hn
theorem nm_global (I : EnvIs env names) (X : Fx w s₀ env ow m cm S s) (hl : names.lookup x = some .globalImplicit) (hd : (x == ("__debug__" : Str)) = false) (e : nsIn (KF w) mainGlobals x = some (some v)) (h : Q v s) : wpAny M A (eval (.Name x pos) env) Q E s := e_global X (I.kindOf hl) e h I.glob I.kind hd
theorem nm_builtin (I : EnvIs env names) (X : Fx w s₀ env ow m cm S s) (hl : names.lookup x = some .globalImplicit) (hd : (x == ("__debug__" : Str)) = false) (e : nsIn (KF w) mainGlobals x = some none) (hv : bootBuiltins x = some v) (hn : x ≠ "__name__") (h : Q v s) : wpAny M A (eval (.Name x pos) env) Q E s := e_builtin X (I.kindOf hl) e hv hn h I.glob I.blt I.kind hd
theorem st_local {Q : Unit → Shared → Prop} (I : EnvIs env names) (X : Fx w s₀ env ow m cm S s) (hl : names.lookup x = some .local) (h : ∀ s', Fx w s₀ env ow (fun y => if y = x then some v else m y) cm S s' → Q () s') : wpAny M A (storeName env x v) Q E s := s_local X (I.kindOf hl) h I.kind
theorem st_cell {Q : Unit → Shared → Prop} {c : Addr} {D : List (Addr × Obj)} (I : EnvIs env names) (X : Fx w s₀ env ⟨.of true, D⟩ m cm S s) (hl : names.lookup x = some .cell) (hc : env.cells.lookup x = some c) (h : ∀ s', Fx w s₀ env ⟨.of true, D⟩ m (fun y => if y = x then some v else cm y) S s' → Q () s') : wpAny M A (storeName env x v) Q E s := s_cell X (I.kindOf hl) hc h I.kind
end

/-! ## calls of the text's own defs -/
structure FnOk (w : World) (fd : FuncData) (body : List Stmt) (names : List (Str × NameKind)) (gen : Bool) : Prop where
  body : fd.body = .stmts body
  names : fd.scope.names = names
  kind : fd.scope.kind = .function
  co : fd.scope.isCoroutine = false
  gen : fd.scope.isGenerator = gen
  glob : fd.globals = mainGlobals
  blt : fd.builtins = builtinsNs
  code : codeIn (KF w) fd.code fd.qualname = true
def retOf : Flow → Value
  | .ret v => v
  | _ => .none

theorem bindL_at (kindOf : Str → Option NameKind) : ∀ (binds : List (Str × Value)) (m : Str → Option Value) (x : Str), bindL kindOf binds m x = if kindOf x = some .local then (binds.reverse.lookup x).or (m x) else m x
  | [], m, x => by unfold bindL; split <;> rfl
  | (n, v) :: r, m, x => by
    unfold bindL
    rw [bindL_at kindOf r, List.reverse_cons, List.lookup_append, Option.or_assoc]
    by_cases hn : kindOf n = some .local
    · rw [if_pos hn]
      by_cases hx : kindOf x = some .local
      · rw [if_pos hx, if_pos hx]
        congr 1
        by_cases e : x = n
        · subst e; simp
        · have hb : (x == n) = false := beq_eq_false_iff_ne.mpr e
          simp [List.lookup_cons, hb, e]
      · rw [if_neg hx, if_neg hx]
        have e : ¬ x = n := fun q => hx (q ▸ hn)
        simp [e]
    · rw [if_neg hn]
      by_cases hx : kindOf x = some .local
      · rw [if_pos hx, if_pos hx]
        congr 1
        have e : ¬ x = n := fun q => hn (q ▸ hx)
        have hb : (x == n) = false := beq_eq_false_iff_ne.mpr e
        simp [List.lookup_cons, hb]
      · rw [if_neg hx, if_neg hx]
theorem bindC_at (kindOf : Str → Option NameKind) : ∀ (binds : List (Str × Value)) (m : Str → Option Value) (x : Str), bindC kindOf binds m x = if kindOf x = some .local then m x else (binds.reverse.lookup x).or (m x)
  | [], m, x => by unfold bindC; split <;> rfl
  | (n, v) :: r, m, x => by
    unfold bindC
    rw [bindC_at kindOf r, List.reverse_cons, List.lookup_append, Option.or_assoc]
    by_cases hn : kindOf n = some .local
    · rw [if_pos hn]
      by_cases hx : kindOf x = some .local
      · rw [if_pos hx, if_pos hx]
      · rw [if_neg hx, if_neg hx]
        congr 1
        have e : ¬ x = n := fun q => hx (q ▸ hn)
        have hb : (x == n) = false := beq_eq_false_iff_ne.mpr e
        simp [List.lookup_cons, hb]
    · rw [if_neg hn]
      by_cases hx : kindOf x = some .local
      · rw [if_pos hx, if_pos hx]
        have e : ¬ x = n := fun q => hn (q ▸ hx)
        simp [e]
      · rw [if_neg hx, if_neg hx]
        congr 1
        by_cases e : x = n
        · subst e; simp
        · have hb : (x == n) = false := beq_eq_false_iff_ne.mpr e
          simp [List.lookup_cons, hb, e]

theorem callQT {w : World} {A : Around} {E : Value → Shared → Prop} {Q : Value → Shared → Prop} {s : Shared} {f : Addr} {fd : FuncData} {oc : Value} {od : Option Addr} {sl : Array (Option Value)} {body : List Stmt} {names : List (Str × NameKind)} {pos : List Value} {kw : List (Str × Value)} {binds : List (Str × Value)}
    {B D : List (Addr × Obj)} {d : Nat}
    (ok : Ok w s.heap) (hB : HS B s.heap) (hD : HD D s.heap) (hA : AO (d + 1) A) (hlook : (KF w).lookup f = some ⟨oc, od, .func fd, sl⟩) (F : FnOk w fd body names false) (hclo : fd.closure = [])
    (hbind : BindsTo s fd ⟨pos, kw⟩ binds) (hkind : (binds.all fun y => names.lookup y.1 == some .local || names.lookup y.1 == some .cell) = true)
    (h : ∀ env s₁ L m cm, EnvIs env names → env.cells = cellsFrom (L + 1) names [] → env.code = fd.code → env.qual = fd.qualname ++ ".<locals>." → AO d (A.deeper env) →
      (∀ x, names.lookup x = some .local → m x = binds.reverse.lookup x) → (∀ x, names.lookup x = some .cell → cm x = binds.reverse.lookup x) → Fx w s env ⟨.of true, D⟩ m cm B s₁ → s.toks ≤ s₁.toks →
      wpAny (model P0 w) (A.deeper env) (execs body env) (fun fl s' => Q (retOf fl) s') (fun _ _ => False) s₁) :
    codeAny (model P0 w) A (.call (.ref f) ⟨pos, kw⟩) (fun r s' => ∃ v, r = .ok (.ret v) ∧ Q v s') s := by
  have hkind' : ∀ x ∈ binds, fd.scope.names.lookup x.1 = some .local ∨ (fd.scope.names.lookup x.1 = some .cell ∧ ((cellsFrom (s.heap.objs.size + 1) fd.scope.names []).lookup x.1).isSome = true) :=
    kindsX (by rw [F.names]; exact hkind) (s.heap.objs.size + 1)
  refine codeAny_call_function hA.room (ok.K _ _ hlook) rfl F.co F.gen F.body (codeRec_of ok.K F.code) (hbind _ _ _ _ ?_)
  rw [hclo]
  refine wpAny_with_toks (Nat.le_refl s.toks) (wpAny_newFunctionEnv_cells F.kind hkind' fun env he s' x htk => ?_)
  have he' : env = callEnvC fd s.heap.objs.size f := he
  have hL : env.locals = s.heap.objs.size := by rw [he']; rfl
  have hI : EnvIs env names := by rw [he']; exact ⟨F.kind, F.glob, F.blt, F.names⟩
  have hC : env.cells = cellsFrom (s.heap.objs.size + 1) names [] := by rw [he']; show cellsFrom (s.heap.objs.size + 1) fd.scope.names [] = _; rw [F.names]
  refine ⟨ok.lim.keeps x.toInCall.keep, codeAny_func ?_⟩
  obtain ⟨h₁, tk, rfl⟩ := x.toInCall.same
  have X : Fx w s env ⟨.of true, D⟩ (bindL env.kindOf binds fun _ => none) (bindC env.kindOf binds fun _ => none) B { s with heap := h₁, toks := tk } := by
    refine ⟨ok, ok.keeps x.toInCall.keep, KT.of x.toInCall.keep, rfl, GE.refl _, x.toInCall.ns, by rw [hL]; exact Heap.get?_none_of_le (Nat.le_refl _), x.cell, fun p hp => ?_, x.apart, fun _ p hp => ?_, hB.kt (KT.of x.toInCall.keep), fun p hp => ?_, trivial⟩
    · refine ok.fresh (Heap.get?_none_of_le (Nat.le_of_lt ?_))
      have := x.above p.1 p.2 hp
      rwa [hL] at this
    · refine Heap.get?_none_of_le (Nat.le_of_lt ?_)
      have := x.above p.1 p.2 hp
      rwa [hL] at this
    · obtain ⟨h1, h2⟩ := hD p hp
      have h3 := Heap.lt_size h1
      refine ⟨x.toInCall.keep _ _ h1, h2, by rw [hL]; exact Nat.ne_of_lt h3, fun q hq => ?_⟩
      have := x.above q.1 q.2 hq
      rw [hL] at this
      exact Nat.ne_of_gt (Nat.lt_trans h3 this)
  refine wpAny_mono (h env _ s.heap.objs.size _ _ hI hC (by rw [he']; rfl) (by rw [he']; rfl) (hA.deeper env)
    (fun x hx => by rw [bindL_at, if_pos (hI.kindOf hx)]; exact Option.or_none) (fun x hx => by rw [bindC_at, if_neg (by rw [hI.kindOf hx]; decide)]; exact Option.or_none) X htk) (fun fl s' r => ?_) fun _ _ f => f.elim
  cases fl <;> exact ⟨_, rfl, r⟩

theorem callQ {w : World} {A : Around} {E : Value → Shared → Prop} {Q : Value → Shared → Prop} {s : Shared} {f : Addr} {fd : FuncData} {oc : Value} {od : Option Addr} {sl : Array (Option Value)} {body : List Stmt} {names : List (Str × NameKind)} {pos : List Value} {kw : List (Str × Value)} {binds : List (Str × Value)}
    {B D : List (Addr × Obj)} {d : Nat}
    (ok : Ok w s.heap) (hB : HS B s.heap) (hD : HD D s.heap) (hA : AO (d + 1) A) (hlook : (KF w).lookup f = some ⟨oc, od, .func fd, sl⟩) (F : FnOk w fd body names false) (hclo : fd.closure = [])
    (hbind : BindsTo s fd ⟨pos, kw⟩ binds) (hkind : (binds.all fun y => names.lookup y.1 == some .local || names.lookup y.1 == some .cell) = true)
    (h : ∀ env s₁ L m cm, EnvIs env names → env.cells = cellsFrom (L + 1) names [] → env.code = fd.code → env.qual = fd.qualname ++ ".<locals>." → AO d (A.deeper env) →
      (∀ x, names.lookup x = some .local → m x = binds.reverse.lookup x) → (∀ x, names.lookup x = some .cell → cm x = binds.reverse.lookup x) → Fx w s env ⟨.of true, D⟩ m cm B s₁ →
      wpAny (model P0 w) (A.deeper env) (execs body env) (fun fl s' => Q (retOf fl) s') (fun _ _ => False) s₁) :
    codeAny (model P0 w) A (.call (.ref f) ⟨pos, kw⟩) (fun r s' => ∃ v, r = .ok (.ret v) ∧ Q v s') s := 
  callQT (E := E) ok hB hD hA hlook F hclo hbind hkind fun env s₁ L m cm a b c e f g h' X _ => h env s₁ L m cm a b c e f g h' X

theorem callF {w : World} {A : Around} {E : Value → Shared → Prop} {s : Shared} {f : Addr} {fd : FuncData} {oc : Value} {od : Option Addr} {sl : Array (Option Value)} {body : List Stmt} {names : List (Str × NameKind)} {pos : List Value} {kw : List (Str × Value)} {binds : List (Str × Value)}
    {B : List (Addr × Obj)} {R : List (Addr × Obj) → Value → Prop} {d : Nat}
    (ok : Ok w s.heap) (hB : HS B s.heap) (hA : AO (d + 1) A) (hlook : (KF w).lookup f = some ⟨oc, od, .func fd, sl⟩) (F : FnOk w fd body names false) (hclo : fd.closure = [])
    (hbind : BindsTo s fd ⟨pos, kw⟩ binds) (hkind : (binds.all fun y => names.lookup y.1 == some .local || names.lookup y.1 == some .cell) = true)
    (h : ∀ env s₁ L m cm, EnvIs env names → env.cells = cellsFrom (L + 1) names [] → env.code = fd.code → env.qual = fd.qualname ++ ".<locals>." → AO d (A.deeper env) →
      (∀ x, names.lookup x = some .local → m x = binds.reverse.lookup x) → (∀ x, names.lookup x = some .cell → cm x = binds.reverse.lookup x) → Fx w s env ⟨.of true, []⟩ m cm B s₁ →
      wpAny (model P0 w) (A.deeper env) (execs body env) (fun fl s' => Ret w s R (retOf fl) s') (fun _ _ => False) s₁) :
    wpAny (model P0 w) A (call (.ref f) pos kw) (Ret w s R) E s :=
  wpAny_call (codeAny_mono (callQ (E := E) (Q := Ret w s R) ok hB HD.nil hA hlook F hclo hbind hkind h) (by rintro r s' ⟨v, rfl, hr⟩; exact hr))

theorem callFT {w : World} {A : Around} {E : Value → Shared → Prop} {s : Shared} {f : Addr} {fd : FuncData} {oc : Value} {od : Option Addr} {sl : Array (Option Value)} {body : List Stmt} {names : List (Str × NameKind)} {pos : List Value} {kw : List (Str × Value)} {binds : List (Str × Value)}
    {B : List (Addr × Obj)} {R : List (Addr × Obj) → Value → Prop} {d : Nat}
    (ok : Ok w s.heap) (hB : HS B s.heap) (hA : AO (d + 1) A) (hlook : (KF w).lookup f = some ⟨oc, od, .func fd, sl⟩) (F : FnOk w fd body names false) (hclo : fd.closure = [])
    (hbind : BindsTo s fd ⟨pos, kw⟩ binds) (hkind : (binds.all fun y => names.lookup y.1 == some .local || names.lookup y.1 == some .cell) = true)
    (h : ∀ env s₁ L m cm, EnvIs env names → env.cells = cellsFrom (L + 1) names [] → env.code = fd.code → env.qual = fd.qualname ++ ".<locals>." → AO d (A.deeper env) →
      (∀ x, names.lookup x = some .local → m x = binds.reverse.lookup x) → (∀ x, names.lookup x = some .cell → cm x = binds.reverse.lookup x) → Fx w s env ⟨.of true, []⟩ m cm B s₁ → s.toks ≤ s₁.toks →
      wpAny (model P0 w) (A.deeper env) (execs body env) (fun fl s' => Ret w s R (retOf fl) s') (fun _ _ => False) s₁) :
    wpAny (model P0 w) A (call (.ref f) pos kw) (Ret w s R) E s :=
  wpAny_call (codeAny_mono (callQT (E := E) (Q := Ret w s R) ok hB HD.nil hA hlook F hclo hbind hkind h) (by rintro r s' ⟨v, rfl, hr⟩; exact hr))

/-! ## the deepest around -/
def Amax (d : Nat) : Around := ⟨none, 900 - d, none, none, 9800 - 80 * d⟩
theorem AO.max {d : Nat} (h : d ≤ 122) : AO d (Amax d) := ⟨rfl, by show 900 - d + d ≤ 900; omega, by show 9800 - 80 * d + 80 * d ≤ 9800; omega⟩
theorem wpAny_up {α : Type} {M : Model} {d : Nat} {A : Around} {t : Sem α} {Q : α → Shared → Prop} {E : Value → Shared → Prop} {s : Shared} (hA : AO d A) (h : wpAny M (Amax d) t Q E s) : wpAny M A t Q E s := by
  intro Γ p hΓ
  refine h Γ p ⟨hΓ.1.trans hA.h, ?_, fun l e => (by cases (show (none : Option (List Env)) = some l from e)), fun g e => (by cases (show (none : Option (List Code)) = some g from e)), ?_⟩
  · have := hΓ.2.1; have := hA.d; show _ ≤ 900 - d; omega
  · have := hΓ.2.2.2.2; have := hA.u; show _ ≤ 9800 - 80 * d; omega

/-! ## while -/
theorem wh {w : World} {A : Around} {s : Shared} {env : Env} {test : Expr} {body : List Stmt} {pos : Pos} {Q : Flow → Shared → Prop} (I : Nat → Shared → Prop)
    (turn : ∀ n s, I n s → wpAny (model P0 w) A (isTrue test env (eval test env)) (fun b s₂ =>
      if b then wpAny (model P0 w) A (execs body env) (fun f s₃ => match f with
          | .next | .cont => ∃ m, m < n ∧ I m s₃
          | .brk => Q .next s₃
          | .ret v => Q (.ret v) s₃) (fun _ _ => False) s₂
      else Q .next s₂) (fun _ _ => False) s) (n : Nat) (h : I n s) : wpAny (model P0 w) A (exec (.While test body [] pos) env) Q (fun _ _ => False) s := by
  refine wpAny_While (codeAny_mono (codeAny_whileLoop (R := fun r s' => ∃ f, r = .ok f ∧ Q f s') I (fun n s hI => wpAny_mono (turn n s hI) (fun b s₂ h₂ => ?_) fun _ _ f => f.elim) n h) ?_)
  · cases b
    · simp only [Bool.false_eq_true, if_false] at h₂ ⊢
      exact wpAny_execs_nil ⟨_, rfl, h₂⟩
    · simp only [if_true] at h₂ ⊢
      refine wpAny_mono h₂ (fun f s₃ h₃ => ?_) fun _ _ f => f.elim
      cases f <;> first | exact h₃ | exact ⟨_, rfl, h₃⟩
  · rintro r s' ⟨f, rfl, q⟩; exact q

/-! ## the text's defs, by their places -/
def topS (i : Nat) : Stmt := P0.main.body.getD i (.Pass default)
def subS (s : Stmt) (i : Nat) : Stmt := match s with
  | .ClassDef _ _ _ b _ _ _ _ _ _ _ => b.getD i (.Pass default)
  | .FunctionDef _ _ b _ _ _ _ _ _ _ => b.getD i (.Pass default)
  | _ => .Pass default
def bodyOf (s : Stmt) : List Stmt := match s with
  | .FunctionDef _ _ b _ _ _ _ _ _ _ => b
  | _ => []
def namesOf (s : Stmt) : List (Str × NameKind) := match s with
  | .FunctionDef _ _ _ _ _ _ sc _ _ _ => sc.names
  | _ => []
section
variable {w : World} {A : Around} {E : Value → Shared → Prop} {s₀ s s' : Shared} {env : Env} {ow : Ow} {m cm : Str → Option Value} {S : List (Addr × Obj)} {R : List (Addr × Obj) → Value → Prop} {v : Value} {x y : Str} {t u : Tok} {pos : Pos} {Q : Value → Shared → Prop}

theorem Fx.pushS (X : Fx w s₀ env ow m cm S s) (o : Obj) (k : Nat) : Fx w s₀ env ow m cm S { s with heap := s.heap.push o, toks := k } := X.grow fun _ _ e => Heap.get?_push_of_some o e
theorem Fx.kept : KeptByPush (Fx w s₀ env ow m cm S) := fun _ o k X => X.pushS o k

theorem t_len (X : Fx w s₀ env ow m cm S s) (h : ∀ t s', Fx w s₀ env ow m cm S s' → Q (.int x.length t) s') (hz : x.length ≤ sizeLine := by size_fits) : wpAny (model P0 w) A (call (.builtin "len") [.str x t]) Q E s :=
  PyProof.Rows.len_str (by rw [sizeLine_eq] at hz; omega) (h _ _ (X.tok _))
theorem t_item {value slice : Expr} {i : Int} (X : Fx w s₀ env ow m cm S s) (h1 : 0 ≤ i) (h2 : i < x.length) (h : ∀ t s', Fx w s₀ env ow m cm S s' → Q (.str (Txt.item x i) t) s') (hz : x.length ≤ sizeLine := by size_fits)
    (hs : subscripted slice false (.str x t) (.int i u) = operate [.str x t, .int i u] (getItem (.str x t) (.int i u)) := by with_unfolding_all rfl)
    (ht : ∀ r, letTemporaryGo value (.str x t) r = pure () := by intro _; with_unfolding_all rfl) :
    wpAny (model P0 w) A (subscriptTail value slice (.str x t) (.int i u)) Q E s :=
  PyProof.Rows.item_str (by rw [sizeLine_eq] at hz; unfold fitsSsize; simp; omega) (by omega) h2 (fun _ => h _ _ (X.tok _)) hs ht
theorem t_slice {value lo hi : Expr} {p : Pos}
    (h : wpAny (model P0 w) A (eval value env) (fun o s₁ => wpAny (model P0 w) A (eval lo env) (fun vl s₂ => wpAny (model P0 w) A (eval hi env) (fun vu s₃ =>
      ∃ x t i ti j tj m cm S, o = .str x t ∧ vl = .int i ti ∧ vu = .int j tj ∧ x.length ≤ sizeLine ∧ Fx w s₀ env ow m cm S s₃ ∧ ∀ t' s', Fx w s₀ env ow m cm S s' → Q (.str (Txt.slice x (some i) (some j)) t') s') E s₂) E s₁) E s)
    (ht : ∀ o r, letTemporaryGo value o r = pure () := by intro _ _; rfl) : wpAny (model P0 w) A (eval (.Subscript value (.Slice (some lo) (some hi) none p) pos) env) Q E s := by
  refine wpAny_Subscript_str_slice (wpAny_mono h (fun o s₁ h₁ => wpAny_evalPart_some (wpAny_mono h₁ (fun vl s₂ h₂ => wpAny_evalPart_some (wpAny_mono h₂ (fun vu s₃ h₃ => ?_) fun _ _ e => e)) fun _ _ e => e)) fun _ _ e => e) ht
  obtain ⟨x, t, i, ti, j, tj, m, cm, S, rfl, rfl, rfl, hz, X, k⟩ := h₃
  exact ⟨x, t, some (i, ti), some (j, tj), rfl, rfl, rfl, post_val_or_str ⟨Nat.le_trans (Txt.slice_le x _ _) hz, fun t' k' => k _ _ (X.pushS _ k')⟩⟩
theorem t_eq {M : Program} (h : Q (.bool (x == y)) s) : wpAny (model M w) A (compareOp .Eq (.str x t) (.str y u)) Q E s := PyProof.Rows.eq_str h
theorem t_ne {M : Program} (h : Q (.bool (x != y)) s) : wpAny (model M w) A (compareOp .NotEq (.str x t) (.str y u)) Q E s := PyProof.Rows.ne_str h
theorem ld_local {M : Model} {names : List (Str × NameKind)} (I : EnvIs env names) (X : Fx w s₀ env ow m cm S s) (hl : names.lookup x = some .local) (hv : m x = some v) (h : Q v s) : wpAny M A (loadName env x) Q E s := wpAny_loadName_local I.kind (I.kindOf hl) X.ns hv h
theorem o_iadd {a b : Int} (X : Fx w s₀ env ow m cm S s) (h : ∀ t s', Fx w s₀ env ow m cm S s' → Q (.int (a + b) t) s') : wpAny (model P0 w) A (inplaceOp .Add (.int a t) (.int b u)) Q E s := PyProof.Rows.iadd_int (h _ _ (X.tok _))
end

/-! ## swap, plain -/
def swapF (old new : List Nat) : Nat → List Nat → List Nat
  | 0, _ => []
  | _ + 1, [] => []
  | n + 1, c :: t => if old.isPrefixOf (c :: t) then new ++ swapF old new n ((c :: t).drop old.length) else c :: swapF old new n t
def swapL (old new l : List Nat) : List Nat := swapF old new l.length l

theorem swapF_more (old new : List Nat) (ho : old ≠ []) : ∀ (n k : Nat) (l : List Nat), l.length ≤ n → l.length ≤ k → swapF old new n l = swapF old new k l := by
  intro n
  induction n with
  | zero => intro k l h1 h2; have : l = [] := List.length_eq_zero_iff.mp (Nat.le_zero.mp h1); subst this; cases k <;> rfl
  | succ n ih =>
    intro k l h1 h2
    cases l with
    | nil => cases k <;> rfl
    | cons c t =>
      cases k with
      | zero => cases h2
      | succ k =>
        have hl : 1 ≤ old.length := by cases old with | nil => exact absurd rfl ho | cons _ _ => simp
        unfold swapF
        have e1 := ih k ((c :: t).drop old.length) (by simp only [List.length_drop, List.length_cons] at *; omega) (by simp only [List.length_drop, List.length_cons] at *; omega)
        have e2 := ih k t (by simpa using h1) (by simpa using h2)
        rw [e1, e2]
theorem swapL_nil (old new : List Nat) : swapL old new [] = [] := rfl
theorem swapL_hit {old new l : List Nat} (ho : old ≠ []) (hl : l ≠ []) (hp : old.isPrefixOf l = true) : swapL old new l = new ++ swapL old new (l.drop old.length) := by
  cases l with
  | nil => exact absurd rfl hl
  | cons c t =>
    show swapF old new (t.length + 1) (c :: t) = _
    have h1 : 1 ≤ old.length := by cases old with | nil => exact absurd rfl ho | cons _ _ => simp
    unfold swapF
    rw [if_pos hp]
    congr 1
    exact swapF_more old new ho _ _ _ (by simp only [List.length_drop, List.length_cons]; omega) (Nat.le_refl _)
theorem swapL_miss {old new : List Nat} {c : Nat} {t : List Nat} (hp : old.isPrefixOf (c :: t) = false) : swapL old new (c :: t) = c :: swapL old new t := by
  show swapF old new (t.length + 1) (c :: t) = _
  unfold swapF
  rw [if_neg (by rw [hp]; exact Bool.false_ne_true)]
  rfl
theorem swapL_len (old new : List Nat) (ho : old ≠ []) : ∀ (n : Nat) (l : List Nat), l.length ≤ n → (swapL old new l).length ≤ l.length * (new.length + 1) := by
  intro n
  induction n with
  | zero => intro l h; have : l = [] := List.length_eq_zero_iff.mp (Nat.le_zero.mp h); subst this; exact Nat.zero_le _
  | succ n ih =>
    intro l h
    cases l with
    | nil => exact Nat.zero_le _
    | cons c t =>
      by_cases hp : old.isPrefixOf (c :: t) = true
      · rw [swapL_hit ho (by simp) hp, List.length_append]
        have h1 : 1 ≤ old.length := by cases old with | nil => exact absurd rfl ho | cons _ _ => simp
        have h2 := ih ((c :: t).drop old.length) (by simp only [List.length_drop, List.length_cons] at *; omega)
        have h3 : ((c :: t).drop old.length).length ≤ t.length := by simp only [List.length_drop, List.length_cons]; omega
        have h4 := Nat.mul_le_mul_right (new.length + 1) h3
        simp only [List.length_cons, Nat.add_mul]
        omega
      · rw [swapL_miss (Bool.eq_false_iff.mpr hp), List.length_cons, List.length_cons]
        have h2 := ih t (by simpa using h)
        simp only [Nat.add_mul]
        omega
def swapS (x old new : Str) : Str := ⟨(swapL old.cps.toList new.cps.toList x.cps.toList).toArray⟩

/-- the slice, clamped at the end -/
theorem sliceRange1 (a b : Int) : sliceRange a b 1 = sliceRange a b 1 := rfl
theorem slice_clip (x : Str) {i j : Int} (h0 : 0 ≤ i) (hi : i ≤ x.length) (hj : i ≤ j) : (Txt.slice x (some i) (some j)).cps.toList = (x.cps.toList.drop i.toNat).take (j - i).toNat := by
  by_cases hl : j ≤ x.length
  · have := StrLaws.sliceText_plain (x := x) (i := i) (j := j) ⟨h0, hj, by simpa [Str.length] using hl⟩
    show (StrLaws.sliceText x (some i) (some j)).cps.toList = _
    rw [this]
  · have e : Builtin.Str.strSliceIndices (some i) (some j) 1 x.length = Builtin.Str.strSliceIndices (some i) (some (x.length : Int)) 1 x.length := by
      unfold Builtin.Str.strSliceIndices
      simp only [gt_iff_lt, Int.zero_lt_one, if_true]
      rw [if_neg (by omega), if_neg (by omega), if_neg (by omega)]
      rw [show max 0 (min j (x.length : Int)) = max 0 (min (x.length : Int) (x.length : Int)) from by omega]
    have e2 : Txt.slice x (some i) (some j) = Txt.slice x (some i) (some (x.length : Int)) := by
      show StrLaws.sliceText x (some i) (some j) = StrLaws.sliceText x (some i) (some (x.length : Int))
      unfold StrLaws.sliceText
      rw [e]
    rw [e2]
    have := StrLaws.sliceText_plain (x := x) (i := i) (j := x.length) ⟨h0, hi, by simp [Str.length]⟩
    show (StrLaws.sliceText x (some i) (some (x.length : Int))).cps.toList = _
    rw [this]
    show (x.cps.toList.drop i.toNat).take ((x.length : Int) - i).toNat = _
    rw [List.take_of_length_le (by simp [Str.length] <;> omega), List.take_of_length_le (by simp [Str.length] at hl ⊢ <;> omega)]
end Mine
end

section
open PySem.StrLaws PySem.Builtin PySem.Builtin.Str
namespace Mine
theorem join_cons2 (z p : Str) (ps : List Str) (h : ps ≠ []) : (Str.join z (p :: ps)).cps.toList = p.cps.toList ++ z.cps.toList ++ (Str.join z ps).cps.toList := by
  cases ps with
  | nil => exact absurd rfl h
  | cons q r =>
    show (p ++ z ++ Str.join z (q :: r)).cps.toList = _
    rw [Str.cps_append, Str.cps_append, Array.toList_append, Array.toList_append]

theorem cuts_swap (x y z : Str) (hy : y.cps.toList ≠ []) : ∀ (n i : Nat) (st : Array Nat × Nat), i + n = x.length + 1 → st.1.size ≤ i → st.2 ≤ x.length →
    ∃ cuts, (forIn (List.range' i n) st (occBody x y x.length (x.length + 1))).run.fst.toList = st.1.toList ++ cuts ∧
      (Str.join z (partsFrom x y.length st.2 cuts)).cps.toList = (x.cps.toList.drop st.2).take (max st.2 i - st.2) ++ swapL y.cps.toList z.cps.toList (x.cps.toList.drop (max st.2 i)) := by
  have hyl : y.cps.toList.length = y.length := by simp [Str.length]
  have hxl : x.cps.toList.length = x.length := by simp [Str.length]
  have hxs : x.cps.size = x.length := rfl
  have hys : y.cps.size = y.length := rfl
  have hy1 : 1 ≤ y.length := by rw [← hyl]; cases h : y.cps.toList with | nil => exact absurd h hy | cons _ _ => simp
  intro n
  induction n with
  | zero =>
    intro i st hi hs hf
    refine ⟨[], by simp, ?_⟩
    have e : max st.2 i = i := by omega
    rw [e, List.drop_of_length_le (by omega : x.cps.toList.length ≤ i), swapL_nil, List.append_nil]
    show (strSub x st.2 x.length).cps.toList = _
    rw [strSub_toList, List.take_of_length_le (by simp; omega), List.take_of_length_le (by simp; omega)]
  | succ n ih =>
    intro i st hi hs hf
    rw [List.range'_succ, List.forIn_cons]
    by_cases hc : ((st.fst.size < x.length + 1 ∧ st.snd ≤ i) ∧ i + y.length ≤ x.length) ∧ subAt x y i = true
    · have hb : occBody x y x.length (x.length + 1) i st = pure (ForInStep.yield (st.fst.push i, i + y.length)) := if_pos hc
      rw [hb]
      obtain ⟨cuts, h1, h2⟩ := ih (i + 1) (st.fst.push i, i + y.length) (by omega) (by simp; omega) (by simpa using hc.1.2)
      refine ⟨i :: cuts, ?_, ?_⟩
      · rw [show (st.fst.toList ++ i :: cuts) = (st.fst.push i).toList ++ cuts by simp]
        exact h1
      · have e : max st.2 i = i := by omega
        rw [e]
        have e2 : max (i + y.length) (i + 1) = i + y.length := by omega
        simp only [e2, Nat.sub_self, List.take_zero, List.nil_append] at h2
        obtain ⟨p, r, hp⟩ := partsFrom_ne x y.length (i + y.length) cuts
        show (Str.join z (strSub x st.2 i :: partsFrom x y.length (i + y.length) cuts)).cps.toList = _
        rw [join_cons2 _ _ _ (by rw [hp]; exact List.cons_ne_nil _ _), h2, strSub_toList, List.append_assoc]
        congr 1
        have hp : y.cps.toList.isPrefixOf (x.cps.toList.drop i) = true := by
          have h := hc.2
          unfold subAt at h
          rw [beq_toList] at h
          have h3 : (x.cps.extract i (i + y.length)).toList = (x.cps.toList.drop i).take y.length := by
            rw [Array.toList_extract, List.extract_eq_take_drop]; congr 1; omega
          rw [h3, beq_iff_eq] at h
          rw [List.isPrefixOf_iff_prefix]
          rw [← h]; exact List.take_prefix _ _
        have hne : x.cps.toList.drop i ≠ [] := by
          intro q
          have := congrArg List.length q
          simp at this
          have := hc.1.2
          omega
        rw [swapL_hit hy hne hp, List.drop_drop, hyl]
    · have hb : occBody x y x.length (x.length + 1) i st = pure (ForInStep.yield (st.fst, st.snd)) := if_neg hc
      rw [hb]
      obtain ⟨cuts, h1, h2⟩ := ih (i + 1) st (by omega) (by omega) hf
      refine ⟨cuts, h1, h2.trans ?_⟩
      by_cases hfi : st.2 ≤ i
      · have e1 : max st.2 (i + 1) = i + 1 := by omega
        have e2 : max st.2 i = i := by omega
        rw [e1, e2]
        by_cases hil : i < x.length
        · have hd : x.cps.toList.drop i = x.cps.toList[i]'(by omega) :: x.cps.toList.drop (i + 1) := List.drop_eq_getElem_cons (by omega)
          have hmiss : y.cps.toList.isPrefixOf (x.cps.toList.drop i) = false := by
            rw [Bool.eq_false_iff]
            intro q
            refine hc ⟨⟨⟨by omega, hfi⟩, ?_⟩, ?_⟩
            · have := (List.isPrefixOf_iff_prefix.mp q).length_le
              simp at this
              have e3 : x.cps.size = x.length := rfl
              have e4 : y.cps.size = y.length := rfl
              omega
            · unfold subAt
              rw [beq_toList]
              have h3 : (x.cps.extract i (i + y.length)).toList = (x.cps.toList.drop i).take y.length := by
                rw [Array.toList_extract, List.extract_eq_take_drop]; congr 1; omega
              rw [h3, beq_iff_eq]
              obtain ⟨t, ht⟩ := List.isPrefixOf_iff_prefix.mp q
              rw [← ht, ← hyl, List.take_left']
              rfl
          rw [hd] at hmiss ⊢
          rw [swapL_miss hmiss]
          have e5 : i + 1 - st.2 = (i - st.2) + 1 := by omega
          rw [e5, List.take_add_one]
          have e6 : (x.cps.toList.drop st.2)[i - st.2]? = some (x.cps.toList[i]'(by omega)) := by
            rw [List.getElem?_drop, show st.2 + (i - st.2) = i by omega]
            exact List.getElem?_eq_getElem (by omega)
          rw [e6]
          simp
        · rw [List.drop_of_length_le (by omega : x.cps.toList.length ≤ i), List.drop_of_length_le (by omega : x.cps.toList.length ≤ i + 1), swapL_nil, List.append_nil, List.append_nil, List.take_of_length_le (by simp; omega), List.take_of_length_le (by simp; omega)]
      · have e1 : max st.2 (i + 1) = st.2 := by omega
        have e2 : max st.2 i = st.2 := by omega
        rw [e1, e2]

theorem replace_swap (x y z : Str) (hy : y.cps.toList ≠ []) : Txt.replace x y z = swapS x y z := by
  have hy1 : (y.length == 0) = false := by
    rw [beq_eq_false_iff_ne]
    intro q
    apply hy
    have : y.cps.toList.length = 0 := by simpa [Str.length] using q
    exact List.length_eq_zero_iff.mp this
  obtain ⟨cuts, h1, h2⟩ := cuts_swap x y z hy (x.length + 1) 0 (#[], 0) (by omega) (Nat.le_refl _) (Nat.zero_le _)
  have h3 : occurrences x y 0 x.length (x.length + 1) = cuts := by
    rw [occ_eq, Nat.sub_zero, h1]; rfl
  simp only [Nat.max_self, Nat.sub_self, List.take_zero, List.nil_append, List.drop_zero] at h2
  unfold Txt.replace swapS
  rw [h3, hy1, Bool.false_and, Bool.or_false]
  apply Str.ext'
  apply Array.toList_inj.mp
  split
  · rename_i hc
    have hc' : cuts = [] := by simpa using hc
    subst hc'
    have h4 : (strSub x 0 x.length).cps.toList = swapL y.cps.toList z.cps.toList x.cps.toList := h2
    rw [sub_whole] at h4
    exact h4
  · rw [partsBetween_eq, glued_eq_join, h2]
end Mine
end

section
open PySem.Calls
namespace Mine
--MACROS
local macro_rules | `(tactic| walk_at "m.look") => `(tactic| first | assumption | exact if_pos rfl | (refine (if_neg (by decide)).trans ?_; walk_at "m.look") | rfl)
local macro_rules | `(tactic| walk_at "m.size") => `(tactic| first | assumption | (rw [sizeLine_eq]; omega) | (simp only [Str.length_append]; rw [sizeLine_eq]; omega))
local macro_rules | `(tactic| walk_at "m.name") => `(tactic| first
  | (refine' nm_local (by assumption) (by assumption) (by rfl) (by decide) ?k1 ?_; (case k1 => walk_at "m.look"))
  | (refine' nm_cell (by assumption) (by assumption) (by rfl) (by decide) (by assumption) ?k1 ?_; (case k1 => walk_at "m.look"))
  | (refine' nm_free (by assumption) (by assumption) (by rfl) (by decide) (by decide) (by assumption) ?k1 ?_; (case k1 => walk_at "m.look"))
  | refine' nm_global (by assumption) (by assumption) (by rfl) (by decide) (by rfl) ?_
  | refine' nm_builtin (by assumption) (by assumption) (by rfl) (by decide) (by kernel_rfl) (by boot_fast) (by decide) ?_)
local macro_rules | `(tactic| walk_at "m1") => `(tactic| first
  | ((with_reducible show wpAny _ _ (execs _ _) _ _ _); first | refine wpAny_execs_cons ?_ | refine wpAny_execs_nil ?_)
  | ((with_reducible show wpAny _ _ (eval (Expr.Name _ _) _) _ _ _); walk_at "m.name")
  | ((with_reducible show wpAny _ _ (eval (Expr.Constant (Const.int _) _ _) _) _ _ _); refine c_int (by assumption) ?_; intro _ _ _)
  | ((with_reducible show wpAny _ _ (eval (Expr.Constant (Const.str _) _ _) _) _ _ _); refine c_str (by assumption) ?_; intro _ _ _)
  | ((with_reducible show wpAny _ _ (eval (Expr.BinOp _ _ _ _) _) _ _ _); refine wpAny_BinOp ?_)
  | ((with_reducible show wpAny _ _ (eval (Expr.Subscript _ (Expr.Slice (some _) (some _) none _) _) _) _ _ _); refine' t_slice ?_)
  | ((with_reducible show wpAny _ _ (eval (Expr.Subscript _ _ _) _) _ _ _); refine Subscript_ ?_)
  | ((with_reducible show wpAny _ _ (eval (Expr.Call (Expr.Name _ _) _ _ _) _) _ _ _); refine Call_ ?_)
  | ((with_reducible show wpAny _ _ (exec (Stmt.Assign [Expr.Name _ _] _ _) _) _ _ _); refine wpAny_Assign_Name ?_)
  | ((with_reducible show wpAny _ _ (exec (Stmt.If _ _ _ _) _) _ _ _); refine wpAny_If ?_)
  | ((with_reducible show wpAny _ _ (exec (Stmt.Return (some _) _) _) _ _ _); refine wpAny_Return_some ?_)
  | ((with_reducible show wpAny _ _ (isTrue (Expr.Compare _ [_] [_] _) _ _) _ _ _); refine wpAny_isTrue_Compare1 ?_)
  | ((with_reducible show wpAny _ _ (truthy (Value.bool _)) _ _ _); refine wpAny_truthy_bool ?_)
  | ((with_reducible show wpAny _ _ (callWith _ (Value.builtin _) [] _ _) _ _ _); refine PyProof.Rows.callWith_builtin1 ?_)
  | ((with_reducible show wpAny _ _ (callWith _ (Value.type _) [] _ _) _ _ _); refine PyProof.Rows.callWith_type1 ?_)
  | ((with_reducible show wpAny _ _ (spliced _) _ _ _); first | refine spliced_more ?_ | refine spliced_none ?_)
  | ((with_reducible show wpAny _ _ (storeName _ _ _) _ _ _); first | (refine st_local (by assumption) (by assumption) (by rfl) ?_; intro _ _) | (refine st_cell (by assumption) (by assumption) (by rfl) (by assumption) ?_; intro _ _))
  | ((with_reducible show wpAny _ _ (binaryOp Operator.Add (Value.int _ _) (Value.int _ _)) _ _ _); refine o_add (by assumption) ?_; intro _ _ _)
  | ((with_reducible show wpAny _ _ (binaryOp Operator.Sub (Value.int _ _) (Value.int _ _)) _ _ _); refine o_sub (by assumption) ?_; intro _ _ _)
  | ((with_reducible show wpAny _ _ (binaryOp Operator.Mod (Value.int _ _) (Value.int _ _)) _ _ _); refine o_mod (by assumption) (by decide) ?_; intro _ _ _)
  | ((with_reducible show wpAny _ _ (binaryOp Operator.FloorDiv (Value.int _ _) (Value.int _ _)) _ _ _); refine o_fdiv (by assumption) (by decide) ?_; intro _ _ _)
  | ((with_reducible show wpAny _ _ (call (Value.builtin "len") [Value.str _ _]) _ _ _); refine t_len (by assumption) ?_ ?k1; (case k1 => walk_at "m.size"); intro _ _ _)
  | ((with_reducible show wpAny _ _ (subscriptTail _ _ (Value.str _ _) (Value.int _ _)) _ _ _); refine t_item (by assumption) ?k1 ?k2 ?_ ?k3; (case k1 => omega); (case k2 => omega); (case k3 => walk_at "m.size"); intro _ _ _)
  | ((with_reducible show wpAny _ _ (binaryOp Operator.Add (Value.str _ _) (Value.str _ _)) _ _ _); refine o_cat (by assumption) ?_ ?k1; (case k1 => walk_at "m.size"); intro _ _ _)
  | ((with_reducible show wpAny _ _ (compareOp CmpOp.Eq (Value.int _ _) (Value.int _ _)) _ _ _); refine PyProof.Rows.eq_int ?_)
  | ((with_reducible show wpAny _ _ (compareOp CmpOp.NotEq (Value.int _ _) (Value.int _ _)) _ _ _); refine PyProof.Rows.ne_int ?_)
  | ((with_reducible show wpAny _ _ (compareOp CmpOp.Lt (Value.int _ _) (Value.int _ _)) _ _ _); refine PyProof.Rows.lt_int ?_)
  | ((with_reducible show wpAny _ _ (compareOp CmpOp.Eq (Value.str _ _) (Value.str _ _)) _ _ _); refine t_eq ?_)
  | ((with_reducible show wpAny _ _ (compareOp CmpOp.NotEq (Value.str _ _) (Value.str _ _)) _ _ _); refine t_ne ?_)
  | ((with_reducible show wpAny _ _ (exec (Stmt.Assign [Expr.Attribute _ _ _] _ _) _) _ _ _); refine plainObj_wpAny_Assign_Attribute ?_)
  | ((with_reducible show wpAny _ _ (eval (Expr.Attribute (Expr.Name _ _) _ _) _) _ _ _); refine Attribute_name ?_)
  | ((with_reducible show wpAny _ _ (exec (Stmt.AugAssign (Expr.Name _ _) _ _ _) _) _ _ _); refine wpAny_AugAssign_Name ?_)
  | ((with_reducible show wpAny _ _ (loadName _ _) _ _ _); (refine' ld_local (by assumption) (by assumption) (by rfl) ?k1 ?_; (case k1 => walk_at "m.look")))
  | ((with_reducible show wpAny _ _ (inplaceOp Operator.Add (Value.int _ _) (Value.int _ _)) _ _ _); refine o_iadd (by assumption) ?_; intro _ _ _)
  | ((with_reducible show wpAny _ _ (eval (Expr.Constant Const.none _ _) _) _ _ _); refine wpAny_Constant_none ?_)
  | ((with_reducible show wpAny _ _ (compareOp CmpOp.IsNot _ Value.none) _ _ _); refine isNot_none ?_)
  | ((with_reducible show wpAny _ _ (compareOp CmpOp.Is _ Value.none) _ _ _); refine is_none ?_)
  | ((with_reducible show wpAny _ _ (eval (Expr.Tuple _ _ _) _) _ _ _); refine Tuple_ ?_)
  | ((with_reducible show wpAny _ _ (eval (Expr.List _ _) _) _ _ _); refine List_ ?_)
  | ((with_reducible show wpAny _ _ (eval (Expr.Compare _ [_] [_] _) _) _ _ _); refine wpAny_Compare1 ?_)
  | ((with_reducible show wpAny _ _ (newTuple _) _ _ _); refine n_tuple (by assumption) ?_; intro _ _ _)
  | ((with_reducible show wpAny _ _ (newList _) _ _ _); refine n_list (by assumption) ?_; intro _ _ _)
  | (dsimp only; (with_reducible show wpAny _ _ (execs (_ :: _) _) _ _ _)))
--END

section
abbrev swapD : Stmt := topS 23
abbrev swapN : List (Str × NameKind) := namesOf swapD

theorem fnSwap (w : World) : ∃ oc od fd sl, (KF w).lookup 514 = some ⟨oc, od, .func fd, sl⟩ ∧ FnOk w fd (bodyOf swapD) swapN false ∧ fd.closure = [] ∧ ∀ a b c, bindArgs fd ⟨[a, b, c], []⟩ = (pure [("text", a), ("old", b), ("new", c)] : Sem (List (Str × Value))) :=
  ⟨_, _, _, _, rfl, ⟨by kernel_rfl, by kernel_rfl, by kernel_rfl, by kernel_rfl, by kernel_rfl, by kernel_rfl, by kernel_rfl, by kernel_rfl⟩, by kernel_rfl, fun a b c => by kernel_rfl⟩

theorem drop_ne {l : List Nat} {k : Nat} (h : k < l.length) : l.drop k ≠ [] := fun e => by have := congrArg List.length e; simp at this; omega
theorem prefix_take {old l : List Nat} : (l.take old.length == old) = old.isPrefixOf l := by
  induction old generalizing l with
  | nil => simp
  | cons c r ih =>
    cases l with
    | nil => simp
    | cons a t =>
      rw [List.isPrefixOf_cons_cons, ← ih, List.length_cons, List.take_succ_cons]
      show (a == c && t.take r.length == r) = _
      have e : (a == c) = (c == a) := by
        by_cases h : a = c
        · subst h; rfl
        · rw [beq_eq_false_iff_ne.mpr h, beq_eq_false_iff_ne.mpr (Ne.symm h)]
      rw [e]

theorem swap_spec {w : World} {A : Around} {E : Value → Shared → Prop} {s : Shared} {x old new : Str} {t1 t2 t3 : Tok} {d : Nat} (ok : Ok w s.heap) (hA : AO (d + 2) A)
    (hx : x.length ≤ 4000) (ho : old.cps.toList ≠ []) (ho2 : old.length ≤ 10) (hn : new.length ≤ 10) :
    wpAny (model P0 w) A (call (.ref 514) [.str x t1, .str old t2, .str new t3]) (Ret w s (fun _ v => ∃ t, v = .str (swapS x old new) t)) E s := by
  obtain ⟨oc, od, fd, sl, hlook, F, hclo, hb⟩ := fnSwap w
  refine callF ok HS.nil hA hlook F hclo (BindsTo.of_eq (hb _ _ _)) (by rfl) ?_
  intro env s₁ L m cm I hc hcode hq hA' hm hcm X
  have hm1 := (hm "text" (by rfl)).trans (show _ = some (Value.str x t1) from rfl)
  have hm2 := (hm "old" (by rfl)).trans (show _ = some (Value.str old t2) from rfl)
  have hm3 := (hm "new" (by rfl)).trans (show _ = some (Value.str new t3) from rfl)
  have hxl : x.cps.toList.length = x.length := by simp [Str.length]
  have hol : old.cps.toList.length = old.length := by simp [Str.length]
  have hnl : new.cps.toList.length = new.length := by simp [Str.length]
  have h1o : 1 ≤ old.length := by rw [← hol]; cases h : old.cps.toList with | nil => exact absurd h ho | cons _ _ => simp
  have hbig : (swapL old.cps.toList new.cps.toList x.cps.toList).length ≤ 44000 := by
    have h := swapL_len old.cps.toList new.cps.toList ho _ _ (Nat.le_refl _ : x.cps.toList.length ≤ _)
    rw [hxl, hnl] at h
    have h2 : x.length * (new.length + 1) ≤ 4000 * 11 := Nat.mul_le_mul hx (by omega)
    omega
  iterate 4 (walk_at "m1")
  show wpAny _ _ (execs _ env) _ _ _
  iterate 4 (walk_at "m1")
  show wpAny _ _ (execs _ env) _ _ _
  walk_at "m1"
  refine wh (fun n s => ∃ said k t t' m, Fx w _ env ⟨.of true, []⟩ m cm [] s ∧ m "text" = some (Value.str x t1) ∧ m "old" = some (Value.str old t2) ∧ m "new" = some (Value.str new t3) ∧ m "said" = some (Value.str said t) ∧ m "k" = some (Value.int k t') ∧
      0 ≤ k ∧ k ≤ x.length ∧ said.cps.toList ++ swapL old.cps.toList new.cps.toList (x.cps.toList.drop k.toNat) = swapL old.cps.toList new.cps.toList x.cps.toList ∧ n = x.length - k.toNat) ?_ (x.length)
    ⟨Str.ofString "", 0, _, _, _, (by assumption), by walk_at "m.look", by walk_at "m.look", by walk_at "m.look", by walk_at "m.look", by walk_at "m.look", by omega, by omega, by simp; rfl, by simp⟩
  rintro n s' ⟨said, k, t, t', m', X', g1, g2, g3, g4, g5, k0, k1, hinv, rfl⟩
  have hsaid : said.length ≤ 44000 := by
    have h := congrArg List.length hinv
    rw [List.length_append] at h
    have : said.cps.toList.length = said.length := by simp [Str.length]
    omega
  repeat (walk_at "m1")
  by_cases hk : k < x.length
  · rw [if_pos (decide_eq_true hk)]
    repeat (walk_at "m1")
    refine ⟨_, _, _, _, _, _, _, _, _, rfl, rfl, rfl, by rw [sizeLine_eq]; omega, (by assumption), fun _ _ _ => ?_⟩
    repeat (walk_at "m1")
    have hsl := slice_clip x (i := k) (j := k + old.length) k0 (by omega) (by omega)
    rw [show (k + (old.length : Int) - k).toNat = old.cps.toList.length by rw [hol]; omega] at hsl
    have hne := drop_ne (l := x.cps.toList) (k := k.toNat) (by rw [hxl]; omega)
    have hcmp : (Txt.slice x (some k) (some (k + old.length)) == old) = old.cps.toList.isPrefixOf (x.cps.toList.drop k.toNat) := by
      rw [← prefix_take, ← hsl, Bool.eq_iff_iff, beq_iff_eq, beq_iff_eq]
      exact ⟨fun e => by rw [e], fun e => Str.ext' (Array.toList_inj.mp e)⟩
    rw [hcmp]
    cases hp : old.cps.toList.isPrefixOf (x.cps.toList.drop k.toNat)
    · rw [if_neg Bool.false_ne_true]
      have hi1 : (Txt.item x k).length = 1 := rfl
      repeat (walk_at "m1")
      refine ⟨_, ?_, _, _, _, _, _, (by assumption), by walk_at "m.look", by walk_at "m.look", by walk_at "m.look", by walk_at "m.look", by walk_at "m.look", by omega, by omega, ?_, rfl⟩
      · omega
      · obtain ⟨c, hcx⟩ : ∃ c, x.cps.toList[k.toNat]? = some c := ⟨_, List.getElem?_eq_getElem (by rw [hxl]; omega)⟩
        have hd : x.cps.toList.drop k.toNat = c :: x.cps.toList.drop (k.toNat + 1) := by
          rw [List.drop_eq_getElem_cons (by rw [hxl]; omega)]
          congr 1
          rw [List.getElem?_eq_getElem (by rw [hxl]; omega)] at hcx
          exact Option.some.inj hcx
        have hit : (Txt.item x k).cps.toList = [c] := by
          have : Txt.charAt x k = some c := StrLaws.at_nonneg k0 (by rw [← Array.getElem?_toList]; exact hcx)
          unfold Txt.item; rw [this]; rfl
        rw [hd] at hp hinv
        rw [swapL_miss hp] at hinv
        rw [Str.cps_append, Array.toList_append, hit, show (k + 1).toNat = k.toNat + 1 from by omega, List.append_assoc]
        exact hinv
    · rw [if_pos rfl]
      repeat (walk_at "m1")
      have hle : old.cps.toList.length ≤ (x.cps.toList.drop k.toNat).length := (List.isPrefixOf_iff_prefix.mp hp).length_le
      rw [List.length_drop, hol, hxl] at hle
      refine ⟨_, ?_, _, _, _, _, _, (by assumption), by walk_at "m.look", by walk_at "m.look", by walk_at "m.look", by walk_at "m.look", by walk_at "m.look", by omega, by omega, ?_, rfl⟩
      · omega
      · rw [swapL_hit ho hne hp, List.drop_drop] at hinv
        rw [Str.cps_append, Array.toList_append, List.append_assoc, show (k + (old.length : Int)).toNat = k.toNat + old.cps.toList.length from by omega]
        exact hinv
  · rw [if_neg (by simpa using hk)]
    dsimp only
    repeat (walk_at "m1")
    refine Fx.ret (by assumption) ⟨t, ?_⟩
    have hk' : k = x.length := by omega
    rw [show x.cps.toList.drop k.toNat = [] from List.drop_of_length_le (by omega), swapL_nil, List.append_nil] at hinv
    show Value.str said t = _
    unfold swapS
    rw [← hinv]
end

section
/-! ## tags -/
abbrev tagInit : Stmt := subS (topS 8) 1
abbrev tagInitN : List (Str × NameKind) := namesOf tagInit
theorem fnTagInit (w : World) : ∃ oc od fd sl, (KF w).lookup 74 = some ⟨oc, od, .func fd, sl⟩ ∧ FnOk w fd (bodyOf tagInit) tagInitN false ∧ fd.closure = [] ∧ ∀ a b c, bindArgs fd ⟨[a, b, c], []⟩ = (pure [("self", a), ("code", b), ("value", c)] : Sem (List (Str × Value))) :=
  ⟨_, _, _, _, rfl, ⟨by kernel_rfl, by kernel_rfl, by kernel_rfl, by kernel_rfl, by kernel_rfl, by kernel_rfl, by kernel_rfl, by kernel_rfl⟩, by kernel_rfl, fun a b c => by kernel_rfl⟩
abbrev tagCode : Stmt := subS (topS 8) 4
theorem fnTagCode (w : World) : ∃ oc od fd sl, (KF w).lookup 95 = some ⟨oc, od, .func fd, sl⟩ ∧ FnOk w fd (bodyOf tagCode) (namesOf tagCode) false ∧ fd.closure = [] ∧ ∀ a, bindArgs fd ⟨[a], []⟩ = (pure [("self", a)] : Sem (List (Str × Value))) :=
  ⟨_, _, _, _, rfl, ⟨by kernel_rfl, by kernel_rfl, by kernel_rfl, by kernel_rfl, by kernel_rfl, by kernel_rfl, by kernel_rfl, by kernel_rfl⟩, by kernel_rfl, fun a => by kernel_rfl⟩
abbrev tagValue : Stmt := subS (topS 8) 5
theorem fnTagValue (w : World) : ∃ oc od fd sl, (KF w).lookup 103 = some ⟨oc, od, .func fd, sl⟩ ∧ FnOk w fd (bodyOf tagValue) (namesOf tagValue) false ∧ fd.closure = [] ∧ ∀ a, bindArgs fd ⟨[a], []⟩ = (pure [("self", a)] : Sem (List (Str × Value))) :=
  ⟨_, _, _, _, rfl, ⟨by kernel_rfl, by kernel_rfl, by kernel_rfl, by kernel_rfl, by kernel_rfl, by kernel_rfl, by kernel_rfl, by kernel_rfl⟩, by kernel_rfl, fun a => by kernel_rfl⟩

abbrev tagObj (dx : Addr) (c x : Value) : Obj := { cls := .ref 150, dict := some dx, data := .plain, slots := #[some c, some x] }

section
variable {w : World} {A : Around} {E : Value → Shared → Prop} {s₀ s s' : Shared} {env : Env} {ow : Ow} {m cm : Str → Option Value} {S : List (Addr × Obj)} {R : Result → Shared → Prop} {v : Value} {x C : Addr} {name : Str}

open Builtin Builtin.ObjectAttr Builtin.Getset_descriptor in
theorem slotset0 {prog : Program} {K : Frag} {ox : Obj} {od : Option Obj} {p i : Nat} (X : K.In s.heap) (I : InstAt s.heap x ox C od) (hp : slotIn K p C = some i) (hi : i < 1000)
    (h : R (.ok (.ret .none)) { s with heap := s.heap.update x fun o => { o with slots := (o.slots ++ Array.replicate (i + 1 - o.slots.size) none).setIfInBounds i (some v) } }) :
    codeAny (model prog w) A (.call (.builtin "member_descriptor.__set__") ⟨[.ref p, .ref x, v], []⟩) R s := by
  obtain ⟨n, tn, owner, behind, tb, d, sl, cd, ho, hc, hm, hb, rfl⟩ := slot_of X hp
  obtain ⟨hh, g, dr, t, os⟩ := s
  have L0 := I.type (M := model prog w)
  have L1 := looks_mroIn (M := model prog w) X hm
  have L2 : Looks (model prog w) hh (Slots.slotNamesOf (.ref C)) cd.slotNames := (looks_clsIn X hc).andThen .now
  have hx := I.at_
  dsimp only at ho hx L0 L1
  have f0 := looks_field (M := model prog w) ho 0 (v := .str n tn) rfl
  have f1 := looks_field (M := model prog w) ho 1 (v := owner) rfl
  have f3 := looks_field (M := model prog w) ho 3 (v := .builtin "proto.slot#set") rfl
  have f4 := looks_field (M := model prog w) ho 4 (v := .int behind tb) rfl
  refine codeAny_call_builtin KF.slot_mset.plain KF.entry_mset (KF.slot_mset.check _ _ _ _ _ _ _ _ ⟨_, ho, rfl⟩ (KF.args_mset _ _ _)  ?_)
  unfold Builtin.«member_descriptor.__set__» descrSet descrStoreThrough descrCheckInstance descrNameAndClass isInstance
  have f5 : Looks (model prog w) hh (descrItself (.ref p)) [.ref p] := ((Looks.ld (part := none) ho).andThen .now).andThen (Looks.of_pure (by kernel_rfl))
  repeat lk
  refine ⟨Code.quiet_builtin _ (by decide +kernel), codeAny_builtin KF.entry_slotset ?_⟩
  unfold Builtin.«proto.slot#set» Slots.target
  repeat lk
  rw [if_neg hb]
  refine wpAny_pure (wpAny_bind ?_)
  unfold setSlotAt
  dsimp only
  rw [if_neg (by rw [sizeLine_eq]; omega)]
  exact wpAny_updatePart hx (wpAny_pure h)

open Builtin Builtin.ObjectAttr Builtin.Getset_descriptor in
theorem slotget0 {prog : Program} {K : Frag} {ox : Obj} {tp : Value} {p i : Nat} (X : K.In s.heap) (hx : s.heap.get? x = some ox) (hC : ox.cls = .ref C) (hp : slotIn K p C = some i) (hv : (ox.slots[i]?).join = some v)
    (h : R (.ok (.ret v)) s) : codeAny (model prog w) A (.call (.builtin "member_descriptor.__get__") ⟨[.ref p, .ref x, tp], []⟩) R s := by
  obtain ⟨n, tn, owner, behind, tb, d, sl, cd, ho, hc, hm, hb, rfl⟩ := slot_of X hp
  obtain ⟨hh, g, dr, t, os⟩ := s
  have L0 : Looks (model prog w) hh (typeOf (.ref x)) (.ref C) := hC ▸ (Looks.ld hx).andThen .now
  have L1 := looks_mroIn (M := model prog w) X hm
  have L2 : Looks (model prog w) hh (Slots.slotNamesOf (.ref C)) cd.slotNames := (looks_clsIn X hc).andThen .now
  dsimp only at ho hx L0 L1
  have f0 := looks_field (M := model prog w) ho 0 (v := .str n tn) rfl
  have f1 := looks_field (M := model prog w) ho 1 (v := owner) rfl
  have f2 := looks_field (M := model prog w) ho 2 (v := .builtin "proto.slot") rfl
  have f4 := looks_field (M := model prog w) ho 4 (v := .int behind tb) rfl
  refine codeAny_call_builtin KF.slot_mem.plain KF.entry_mem (KF.slot_mem.check _ _ _ _ _ _ _ _ ⟨_, ho, rfl⟩ (KF.args_mem _ _ _) ?_)
  unfold Builtin.«member_descriptor.__get__» descrGet
  rw [dga_obj]
  refine wpAny_bind (wpAny_pure ?_)
  unfold descrGetter descrCheckInstance descrNameAndClass isInstance
  repeat lk
  refine ⟨Code.quiet_builtin _ (by decide +kernel), codeAny_builtin KF.entry_slot ?_⟩
  unfold Builtin.«proto.slot» Slots.target
  repeat lk
  rw [if_neg hb]
  repeat lk
  rw [hv]
  exact wpAny_pure h

open Builtin Builtin.ObjectAttr in
/-- a read by a data descriptor -/
theorem get_data {prog : Program} {K : Frag} {ox : Obj} {g a : Value} {expr : Bool} {Q : Value → Shared → Prop} (X : K.In s.heap) (hx : s.heap.get? x = some ox) (hC : ox.cls = .ref C)
    (hga : findIn K (.ref C) "__getattribute__" = some (some (.builtin "object.__getattribute__"))) (hk : findIn K (.ref C) "__getattr__" = some none)
    (ha : findIn K (.ref C) name = some (some a)) (hg : specialIn K a "__get__" = some (some g)) (hd : takesIn K a = some true)
    (h : wpAny (model prog w) A.in1 (call g [a, .ref x, .ref C]) (fun v s' => wpAny (model prog w) A (handedOut v) Q E s') (fun e s' => wpAny (model prog w) A (noteIf true (.ref x) (.str name s.toks) e) (fun _ s'' => E e s'') E s') { s with toks := s.toks + 1 }) :
    wpAny (model prog w) A (getAttr (.ref x) name expr) Q E s := by
  obtain ⟨hh, gg, d, t, os⟩ := s
  have L0 : Looks (model prog w) hh (typeOf (.ref x)) (.ref C) := hC ▸ (Looks.ld hx).andThen .now
  have L1 : Looks (model prog w) hh (find (.ref x) (.ref C) name) (.bind g a) := (looks_findIn X ha).andThen ((looks_specialIn X hg).andThen ((show Looks (model prog w) hh (dataDescriptor? (some a) (some g)) (some (g, a)) from (looks_takesIn X hd).andThen .now).andThen (Looks.tag .now)))
  have L2 := looks_findIn (M := model prog w) X hk
  have L3 := looks_findIn (M := model prog w) X hga
  unfold getAttr getAttrBy
  refine wpAny_bind (wpAny_mkText (wpAny_holding (wpAny_bind (L0.at (wpAny_bind (L3.at ?_))))))
  show wpAny _ _ (getAttrEveryday _ _ _) _ _ _
  refine wpAny_bind (wpAny_onRaise (wpAny_runValue (codeAny_builtin F.plainObj_entry_getattr_hooked (wpAny_mono (Q := fun fin s' => match fin with | .done (.ret v) => wpAny (model prog w) A (handedOut v) Q E s' | _ => False) ?_ (fun fin s' z => ?_) fun _ _ z => z))))
  · refine wpAny_bind (wpAny_pure (wpAny_bind (L0.at (wpAny_bind (L1.at (wpAny_bind (L2.at ?_)))))))
    show wpAny _ _ (holding [a] (call g [a, .ref x, .ref C]) >>= ret) _ _ _
    exact wpAny_bind (wpAny_holding (wpAny_mono h (fun v s' z => wpAny_pure z) fun _ _ z => z))
  · rcases fin with (_ | _ | _ | _) | _ <;> first | exact z | exact z.elim

theorem handed_str {M : Model} {A : Around} {E : Value → Shared → Prop} {s : Shared} {Q : Value → Shared → Prop} (hh : handedIn v = true) (h : Q v s) : wpAny M A (handedOut v) Q E s := by rw [handedOut_of hh]; exact wpAny_pure h

/-- store into a slot of a tag under construction -/
theorem tag_set {b : Bool} {D : List (Addr × Obj)} {dx : Addr} {sl : Array (Option Value)} {p i : Nat} {Q : Unit → Shared → Prop} (X : Fx w s₀ env ⟨.of b, (x, { cls := .ref 150, dict := some dx, data := .plain, slots := sl }) :: (dx, emptyDict) :: D⟩ m cm S s)
    (hx : s₀.heap.get? x = none) (hD : ∀ p ∈ ((dx, emptyDict) :: D), p.1 ≠ x) (hS : ∀ p ∈ S, p.1 ≠ x)
    (ht : takerIn (KF w) 150 name = some (some (.ref p))) (hT : typeIn (KF w) (.ref p) = some (.type "member_descriptor")) (hi : slotIn (KF w) p 150 = some i) (hz : i < 1000)
    (h : ∀ s', Fx w s₀ env ⟨.of b, (x, { cls := .ref 150, dict := some dx, data := .plain, slots := (sl ++ Array.replicate (i + 1 - sl.size) none).setIfInBounds i (some v) }) :: (dx, emptyDict) :: D⟩ m cm S s' → Q () s') :
    wpAny (model P0 w) A (setAttr (.ref x) name v) Q E s := by
  have I : InstAt s.heap x { cls := .ref 150, dict := some dx, data := .plain, slots := sl } 150 (some emptyDict) := ⟨(X.dd _ (.head _)).1, rfl, rfl, (X.dd _ (.tail _ (.head _))).1⟩
  refine set_plain X.ok.K I (by kernel_rfl) ?_
  refine osa_descr (s := { s with toks := s.toks + 1 }) (S := KF.slot_mset) X.ok.K I (by kernel_rfl) ht hT ?_
  refine slotset0 (s := { s with toks := s.toks + 1 }) X.ok.K I hi hz ?_
  refine h _ ?_
  have hu := Heap.get?_update_self (h := s.heap) (fun o : Obj => { o with slots := (o.slots ++ Array.replicate (i + 1 - o.slots.size) none).setIfInBounds i (some v) }) I.at_ rfl
  exact X.updD hx hD hS (.plain rfl) hu (Heap.SameBut.update ..).extBut
end
end

section
theorem AO.tcall {d : Nat} {A : Around} {C : Addr} {vals : List Value} {kw : List (Str × Value)} (x : AO (d + 1) A) : AO d (A.under (.builtin "type.__call__" ⟨.ref C :: vals, kw⟩)) :=
  ⟨x.h, by have := x.d; show A.depth + 1 + d ≤ 900; omega, by have := x.u; show A.units + 1 + 80 * d ≤ 9800; omega⟩

section
variable {w : World} {A : Around} {E : Value → Shared → Prop} {s : Shared}
theorem tag_make {c v : Value} {d : Nat} (ok : Ok w s.heap) (hA : AO (d + 3) A) : wpAny (model P0 w) A (call (.ref 150) [c, v]) (Ret w s (fun S' r => ∃ a dx, r = .ref a ∧ S' = [(a, tagObj dx c v)])) E s := by
  obtain ⟨oc, od, fd, sl, hlook, F, hclo, hb⟩ := fnTagInit w
  obtain ⟨hh, g, dr, t, os⟩ := s
  refine wpAny_call (make_core (makes_of ok.K (by kernel_rfl)) (looks_findIn ok.K (show findIn (KF w) (.ref 150) "__init__" = some (some (.ref 74)) by kernel_rfl)) (fun self => bind_fn ok.K self (by kernel_rfl)) (.inl rfl) ?_)
  have kk : ∀ b o, hh.get? b = some o → ((hh.push emptyDict).push (instObj 150 hh.objs.size)).get? b = some o := fun b o e => Heap.get?_push_of_some _ (Heap.get?_push_of_some _ e)
  have nx : hh.get? (hh.objs.size + 1) = none := Heap.get?_none_of_le (Nat.le_succ _)
  have nd : hh.get? hh.objs.size = none := Heap.get?_none_of_le (Nat.le_refl _)
  have gx : ((hh.push emptyDict).push (instObj 150 hh.objs.size)).get? (hh.objs.size + 1) = some (instObj 150 hh.objs.size) := by heap_get
  have gd : ((hh.push emptyDict).push (instObj 150 hh.objs.size)).get? hh.objs.size = some emptyDict := by heap_get
  refine codeAny_mono (callQ (E := fun _ _ => False) (Q := fun r s' => r = .none ∧ Ret w ⟨hh, g, dr, t, os⟩ (fun S' r => ∃ a dx, r = .ref a ∧ S' = [(a, tagObj dx c v)]) (.ref (hh.objs.size + 1)) s') (D := [(hh.objs.size + 1, instObj 150 hh.objs.size), (hh.objs.size, emptyDict)]) (d := d + 1)
    (ok.keeps kk) HS.nil ?_ hA.tcall hlook F hclo (BindsTo.of_eq (hb _ _ _)) (by rfl) ?_) ?_
  · intro p hp
    simp only [List.mem_cons, List.not_mem_nil, or_false] at hp
    rcases hp with rfl | rfl
    · exact ⟨gx, ok.fresh nx⟩
    · exact ⟨gd, ok.fresh nd⟩
  · intro env s₁ L m cm I hc hcode hq hA' hm hcm X
    replace X := X.older (s₁ := ⟨hh, g, dr, t, os⟩) ok (KT.of kk) rfl (GE.refl _)
    have hm1 := (hm "self" (by rfl)).trans (show _ = some (Value.ref (hh.objs.size + 1)) from rfl)
    have hm2 := (hm "code" (by rfl)).trans (show _ = some c from rfl)
    have hm3 := (hm "value" (by rfl)).trans (show _ = some v from rfl)
    iterate 4 (walk_at "m1")
    refine tag_set (D := []) X nx (by intro p hp; simp only [List.mem_cons, List.not_mem_nil, or_false] at hp; subst hp; exact Nat.ne_of_lt (Nat.lt_succ_self _)) (fun p hp => nomatch hp) (p := 151) (i := 0) (by kernel_rfl) (by kernel_rfl) (by kernel_rfl) (by decide) ?_
    intro s₂ X₂
    show wpAny _ _ (execs _ env) _ _ _
    iterate 4 (walk_at "m1")
    refine tag_set (D := []) X₂ nx (by intro p hp; simp only [List.mem_cons, List.not_mem_nil, or_false] at hp; subst hp; exact Nat.ne_of_lt (Nat.lt_succ_self _)) (fun p hp => nomatch hp) (p := 152) (i := 1) (by kernel_rfl) (by kernel_rfl) (by kernel_rfl) (by decide) ?_
    intro s₃ X₃
    show wpAny _ _ (execs _ env) _ _ _
    walk_at "m1"
    refine ⟨rfl, X₃.ok, X₃.kt, X₃.os, X₃.ge, [(hh.objs.size + 1, tagObj hh.objs.size c v)], fun p hp => ?_, _, _, rfl, rfl⟩
    simp only [List.mem_cons, List.not_mem_nil, or_false] at hp
    subst hp
    obtain ⟨h1, h2, _⟩ := X₃.dd _ (.head _)
    exact ⟨h1, h2, rfl⟩
  · rintro r s' ⟨v', rfl, rfl, hr⟩
    exact ⟨rfl, hr⟩

/-- a tag's fact -/
def IsTag (S : List (Addr × Obj)) (r c v : Value) : Prop := ∃ a dx, r = .ref a ∧ (a, tagObj dx c v) ∈ S
theorem tag_code0 {c v r : Value} {S : List (Addr × Obj)} {d : Nat} {Q : Value → Shared → Prop} {expr : Bool} (ok : Ok w s.heap) (hS : HS S s.heap) (hr : IsTag S r c v) (hA : AO (d + 3) A) (hc : handedIn c = true)
    (h : ∀ s', Ret w s (fun _ v => v = c) c s' → Q c s') : wpAny (model P0 w) A (getAttr r "code" expr) Q E s := by
  obtain ⟨a, dx, rfl, hm⟩ := hr
  obtain ⟨ha, _, _⟩ := hS _ hm
  obtain ⟨oc, od, fd, sl, hlook, F, hclo, hb⟩ := fnTagCode w
  refine get_data ok.K ha rfl (by kernel_rfl) (by kernel_rfl) (a := .ref 96) (g := .builtin "property.__get__") (by kernel_rfl) (by kernel_rfl) (by kernel_rfl) ?_
  refine wpAny_call (prop_get (s := { s with toks := s.toks + 1 }) ok.K (fget := 95) (rest := ((recIn (KF w) 96 "property").getD []).tail) (by kernel_rfl) ?_)
  refine codeAny_mono (callQ (E := fun _ _ => False) (s := { s with toks := s.toks + 1 }) (Q := Ret w { s with toks := s.toks + 1 } (fun _ v => v = c)) (D := []) (d := d + 1) ok hS HD.nil hA.in1 hlook F hclo (BindsTo.of_eq (hb _)) (by rfl) ?_) ?_
  · intro env s₁ L m cm I hc' hcode hq hA' hm' hcm X
    have hm1 := (hm' "self" (by rfl)).trans (show _ = some (Value.ref a) from rfl)
    iterate 4 (walk_at "m1")
    obtain ⟨ha', _, _⟩ := X.has _ hm
    refine get_data X.ok.K ha' rfl (by kernel_rfl) (by kernel_rfl) (a := .ref 151) (g := .builtin "member_descriptor.__get__") (by kernel_rfl) (by kernel_rfl) (by kernel_rfl) ?_
    refine wpAny_call (slotget0 (s := { s₁ with toks := s₁.toks + 1 }) X.ok.K ha' rfl (p := 151) (i := 0) (by kernel_rfl) rfl ?_)
    refine handed_str hc ?_
    exact Fx.ret (X.tok _) rfl
  · rintro r s' ⟨v', rfl, hr⟩
    obtain ⟨_, _, rfl⟩ := hr.has
    exact handed_str hc (h _ ⟨hr.ok, hr.kt, hr.os, hr.ge, hr.has⟩)
theorem tag_value0 {c v r : Value} {S : List (Addr × Obj)} {d : Nat} {Q : Value → Shared → Prop} {expr : Bool} (ok : Ok w s.heap) (hS : HS S s.heap) (hr : IsTag S r c v) (hA : AO (d + 3) A) (hc : handedIn v = true)
    (h : ∀ s', Ret w s (fun _ r => r = v) v s' → Q v s') : wpAny (model P0 w) A (getAttr r "value" expr) Q E s := by
  obtain ⟨a, dx, rfl, hm⟩ := hr
  obtain ⟨ha, _, _⟩ := hS _ hm
  obtain ⟨oc, od, fd, sl, hlook, F, hclo, hb⟩ := fnTagValue w
  refine get_data ok.K ha rfl (by kernel_rfl) (by kernel_rfl) (a := .ref 104) (g := .builtin "property.__get__") (by kernel_rfl) (by kernel_rfl) (by kernel_rfl) ?_
  refine wpAny_call (prop_get (s := { s with toks := s.toks + 1 }) ok.K (fget := 103) (rest := ((recIn (KF w) 104 "property").getD []).tail) (by kernel_rfl) ?_)
  refine codeAny_mono (callQ (E := fun _ _ => False) (s := { s with toks := s.toks + 1 }) (Q := Ret w { s with toks := s.toks + 1 } (fun _ r => r = v)) (D := []) (d := d + 1) ok hS HD.nil hA.in1 hlook F hclo (BindsTo.of_eq (hb _)) (by rfl) ?_) ?_
  · intro env s₁ L m cm I hc' hcode hq hA' hm' hcm X
    have hm1 := (hm' "self" (by rfl)).trans (show _ = some (Value.ref a) from rfl)
    iterate 4 (walk_at "m1")
    obtain ⟨ha', _, _⟩ := X.has _ hm
    refine get_data X.ok.K ha' rfl (by kernel_rfl) (by kernel_rfl) (a := .ref 152) (g := .builtin "member_descriptor.__get__") (by kernel_rfl) (by kernel_rfl) (by kernel_rfl) ?_
    refine wpAny_call (slotget0 (s := { s₁ with toks := s₁.toks + 1 }) X.ok.K ha' rfl (p := 152) (i := 1) (by kernel_rfl) rfl ?_)
    refine handed_str hc ?_
    exact Fx.ret (X.tok _) rfl
  · rintro r s' ⟨v', rfl, hr⟩
    obtain ⟨_, _, rfl⟩ := hr.has
    exact handed_str hc (h _ ⟨hr.ok, hr.kt, hr.os, hr.ge, hr.has⟩)
end
end

section
/-! ## outside a frame -/
structure Bx (w : World) (b s : Shared) : Prop where
  ok₀ : Ok w b.heap
  ok : Ok w s.heap
  kt : KT b.heap s.heap
  os : s.os = b.os
  ge : GE b.gens s.gens

section
variable {w : World} {A : Around} {E : Value → Shared → Prop} {s₀ s s' b : Shared} {env : Env} {ow : Ow} {m cm : Str → Option Value} {S : List (Addr × Obj)} {v : Value}
theorem Fx.bx (X : Fx w s₀ env ow m cm S s) : Bx w s₀ s := ⟨X.ok₀, X.ok, X.kt, X.os, X.ge⟩
theorem Bx.self {s : Shared} (ok : Ok w s.heap) : Bx w s s := ⟨ok, ok, KT.refl _, rfl, GE.refl _⟩
theorem Bx.ret {R : List (Addr × Obj) → Value → Prop} (X : Bx w b s) (h : HS S s.heap) (r : R S v) : Ret w b R v s := ⟨X.ok, X.kt, X.os, X.ge, S, h, r⟩
theorem Bx.trans (X : Bx w b s) (Y : Bx w s s') : Bx w b s' := ⟨X.ok₀, Y.ok, X.kt.trans Y.kt, Y.os.trans X.os, X.ge.trans Y.ge⟩
theorem Ret.bx {R : List (Addr × Obj) → Value → Prop} (r : Ret w s R v s') (ok : Ok w s.heap) : Bx w s s' := ⟨ok, r.ok, r.kt, r.os, r.ge⟩
theorem Ret.pre {R : List (Addr × Obj) → Value → Prop} (X : Bx w b s) (r : Ret w s R v s') : Ret w b R v s' := ⟨r.ok, X.kt.trans r.kt, r.os.trans X.os, X.ge.trans r.ge, r.has⟩
theorem Ret.mono {R R' : List (Addr × Obj) → Value → Prop} (r : Ret w s R v s') (h : ∀ S, (∀ p ∈ S, frz p.2 = true) → R S v → R' S v) : Ret w s R' v s' := ⟨r.ok, r.kt, r.os, r.ge, let ⟨S, a, b⟩ := r.has; ⟨S, a, h S (fun p m => (a p m).2.2) b⟩⟩
theorem Bx.new0 (X : Bx w b s) {a : Addr} (e : s.heap.get? a = none) : b.heap.get? a = none := by
  cases q : b.heap.get? a with
  | none => rfl
  | some o => rw [X.kt a o (X.ok.fresh e) q] at e; cases e
theorem Bx.grow (X : Bx w b s) {h' : Heap} {t : Nat} (k : ∀ a o, s.heap.get? a = some o → h'.get? a = some o) : Bx w b { s with heap := h', toks := t } := ⟨X.ok₀, X.ok.keeps k, X.kt.trans (KT.of k), X.os, X.ge⟩
theorem Bx.upd (X : Bx w b s) {x : Addr} {o : Obj} {h' : Heap} {t : Nat} (hx : b.heap.get? x = none) (ex : s.heap.get? x = some o) (nc : notCode o) (hs : Heap.ExtBut x s.heap h') : Bx w b { s with heap := h', toks := t } :=
  let ⟨a, c⟩ := X.ok₀.upd X.ok X.kt hx ex nc hs; ⟨X.ok₀, a, c, X.os, X.ge⟩
theorem Bx.setGen (X : Bx w b s) {g : Nat} {gs : GenState} (hg : b.gens[g]? = none) (hb : gs.bare = true) : Bx w b (s.setGen g gs) :=
  ⟨X.ok₀, X.ok, X.kt, X.os, ⟨fun h y hy => by
    have h1 := X.ge.bare h
    simp only [Shared.setGen] at hy
    obtain ⟨i, hi, e⟩ := Array.mem_iff_getElem.mp hy
    rw [Array.getElem_setIfInBounds] at e
    · split at e
      · rw [← e]; exact hb
      · rw [← e]; exact h1 _ (Array.getElem_mem _)
    · simpa using hi, fun i x e => by
    have ne : i ≠ g := fun q => by rw [q, hg] at e; cases e
    have := X.ge.keep i x e
    show (s.gens.setIfInBounds g gs)[i]? = some x
    rw [Array.getElem?_setIfInBounds_ne (Ne.symm ne)]; exact this⟩⟩
theorem Bx.pushGen (X : Bx w b s) {gs : GenState} {h' : Heap} {t : Nat} (hb : gs.bare = true) (k : ∀ a o, s.heap.get? a = some o → h'.get? a = some o) : Bx w b { s with gens := s.gens.push gs, heap := h', toks := t } :=
  ⟨X.ok₀, X.ok.keeps k, X.kt.trans (KT.of k), X.os, ⟨fun h y hy => by
    rcases Array.mem_push.mp hy with hy | rfl
    · exact X.ge.bare h y hy
    · exact hb, fun i x e => by
    have := X.ge.keep i x e
    have hlt : i < s.gens.size := by
      rcases Nat.lt_or_ge i s.gens.size with h | h
      · exact h
      · rw [Array.getElem?_eq_none h] at this; cases this
    show (s.gens.push gs)[i]? = some x
    rw [Array.getElem?_push_lt hlt]
    rw [Array.getElem?_eq_getElem hlt] at this; exact this⟩⟩

variable {N NG : Nat}
structure Fr' (N NG : Nat) (s s' : Shared) : Prop where
  heap : ∀ a o, a < N → a ∉ T4 → s.heap.get? a = some o → s'.heap.get? a = some o
  gens : ∀ g, g < NG → s'.gens[g]? = s.gens[g]?
theorem Fr'.refl (s : Shared) : Fr' N NG s s := ⟨fun _ _ _ _ e => e, fun _ _ => rfl⟩
theorem Fr'.trans {s'' : Shared} (x : Fr' N NG s s') (y : Fr' N NG s' s'') : Fr' N NG s s'' := ⟨fun a o h n e => y.heap a o h n (x.heap a o h n e), fun g h => (y.gens g h).trans (x.gens g h)⟩
theorem Fr'.le {N' NG' : Nat} (x : Fr' N' NG' s s') (h : N ≤ N') (h2 : NG ≤ NG') : Fr' N NG s s' := ⟨fun a o l n e => x.heap a o (Nat.lt_of_lt_of_le l h) n e, fun g l => x.gens g (Nat.lt_of_lt_of_le l h2)⟩

/-- an iterator: N, NG the sizes behind it; n items -/
structure Itr (w : World) (b : Shared) (I : Addr) (T : String) (N NG n d : Nat) (R : Nat → List (Addr × Obj) → Value → Prop) (St : Nat → Shared → Prop) : Prop where
  frame : ∀ i s s', St i s → Fr' N NG s s' → St i s'
  item : ∀ i s E, i < n → St i s → Bx w b s → wpAny (model P0 w) (Amax d) (pyNext (.ref I)) (fun o s' => ∃ v T', o = some v ∧ HS T' s'.heap ∧ R i T' v ∧ St (i + 1) s' ∧ Bx w b s' ∧ Mv N NG s s') E s
  done : ∀ s E, St n s → Bx w b s → wpAny (model P0 w) (Amax d) (pyNext (.ref I)) (fun o s' => o = none ∧ Bx w b s' ∧ Mv N NG s s') E s
  self : ∀ i s A E (Q : Value → Shared → Prop), St i s → Q (.ref I) s → wpAny (model P0 w) A (pyIter (.ref I)) Q E s
  type : ∀ i s, St i s → s.TypeIs (.ref I) T
  lt : I < N

/-! ## the list iterator -/
def LI (I l : Addr) (items : Array Value) (i : Nat) (s : Shared) : Prop := s.heap.IsListIter I l i ∧ I ∉ T4 ∧ l ∉ T4 ∧ ∃ ol k, s.heap.get? l = some ol ∧ ol.data = .seq items k

theorem next_item {prog : Program} {it l : Addr} {i k : Nat} {items : Array Value} {x : Value} {ol : Obj} {Q : Option Value → Shared → Prop} (hit : s.heap.IsListIter it l i) (hl : s.heap.get? l = some ol) (hd : ol.data = .seq items k) (hx : items[i]? = some x)
    (hQ : ∀ h', h'.IsListIter it l (i + 1) → Heap.SameBut it s.heap h' → Q (some x) { s with heap := h' }) : wpAny (model prog w) A (pyNext (.ref it)) Q E s := by
  obtain ⟨o, ho, hc, hf⟩ := id hit
  unfold pyNext
  refine wpAny_bind (wpAny_attempt (wpAny_callSpecial?_slot (name := Str.ofString "__next__") hit.typeIs slot_listiter_next (wpAny_call_entry slot_listiter_next hit.typeIs entry_listiter_next ?_ (args_listiter_next _))))
  refine wpAny_bind (m := field (.ref it) 0) (wpAny_field ho hf (x := .ref l) rfl ?_)
  refine wpAny_bind (m := field (.ref it) 1) (wpAny_field ho hf (x := .int i 0) rfl ?_)
  refine wpAny_bind (m := seqItems? (.ref l)) (wpAny_seqItems hl hd ?_)
  simp only [Int.toNat_natCast, hx]
  refine wpAny_bind (wpAny_setField ho hf (by simp) (wpAny_pure ⟨x, rfl, wpAny_pure (hQ _ ⟨_, Heap.get?_update_self _ ho (Obj.isFreed_of_fields (Obj.data_mapFields hf _)), (Obj.cls_mapFields ..).trans hc, ?_⟩ (Heap.SameBut.update ..))⟩))
  rw [Obj.data_mapFields hf]; simp [rawInt]

theorem next_end {prog : Program} {it l : Addr} {i k : Nat} {items : Array Value} {ol : Obj} {Q : Option Value → Shared → Prop} (hh : A.handled = none) (hit : s.heap.IsListIter it l i) (hl : s.heap.get? l = some ol) (hd : ol.data = .seq items k) (hx : items[i]? = none)
    (hQ : ∀ h', Heap.ExtBut it s.heap h' → Q none { s with heap := h' }) : wpAny (model prog w) A (pyNext (.ref it)) Q E s := by
  obtain ⟨o, ho, hc, hf⟩ := id hit
  unfold pyNext
  refine wpAny_bind (wpAny_attempt (wpAny_callSpecial?_slot (name := Str.ofString "__next__") hit.typeIs slot_listiter_next (wpAny_call_entry slot_listiter_next hit.typeIs entry_listiter_next ?_ (args_listiter_next _))))
  refine wpAny_bind (m := field (.ref it) 0) (wpAny_field ho hf (x := .ref l) rfl ?_)
  refine wpAny_bind (m := field (.ref it) 1) (wpAny_field ho hf (x := .int i 0) rfl ?_)
  refine wpAny_bind (m := seqItems? (.ref l)) (wpAny_seqItems hl hd ?_)
  simp only [Int.toNat_natCast, hx]
  refine wpAny_bind (wpAny_rule (wpAny_bind (wpAny_setField ho hf (by simp) (wpAny_bind (m := newExc (.type "StopIteration") []) ?_))))
  simp only [newExc, newTuple]
  refine wpAny_bind (wpAny_newObj_type ?_ (by size_fits))
  refine wpAny_bind (m := firstArgMember _ _) (wpAny_of_eq (a := Value.none) (by first | rfl | (simp only [firstArgMember]; rfl)) (wpAny_newObj_type ?_ (by size_fits)))
  simp only [raiseNew]
  refine wpAny_bind (wpAny_handled ?_)
  rw [show A.in1.handled = none from hh]
  refine wpAny_bind (wpAny_pure (wpAny_throw ?_))
  refine wpAny_bind (wpAny_isInstance (T := "StopIteration") (b := true) ⟨_, Heap.get?_push_size _ rfl, rfl⟩ isSubtype_stop ?_)
  exact wpAny_pure (hQ _ (((Heap.SameBut.update ..).extBut.push _).push _))

theorem IsListIter.frz0 {h : Heap} {I l : Addr} {i : Nat} (x : h.IsListIter I l i) : ∃ o, h.get? I = some o ∧ frz o = false ∧ notCode o := by
  obtain ⟨o, ho, hc, hf⟩ := x
  refine ⟨o, ho, by unfold frz; rw [hf, hc]; rfl, fun vs e q t h => ?_⟩
  rw [hf] at e; cases e; cases h

theorem Itr.list {I l : Addr} {items : Array Value} {N NG d : Nat} (hb : b.heap.get? I = none) (hI : I < N) (hl : l < N) (hd : d ≤ 122) (hne : l ≠ I) :
    Itr w b I "list_iterator" N NG items.size d (fun i T v => T = [] ∧ items[i]? = some v) (LI I l items) where
  frame := fun i s s' ⟨⟨o, e, r⟩, n1, n2, ol, k, e2, r2⟩ f => ⟨⟨o, f.heap _ _ hI n1 e, r⟩, n1, n2, ol, k, f.heap _ _ hl n2 e2, r2⟩
  item := fun i s E hi ⟨hit, n1, n2, ol, k, e2, r2⟩ X => by
    obtain ⟨o, ho, f, nc⟩ := IsListIter.frz0 hit
    refine next_item hit e2 r2 (Array.getElem?_eq_getElem hi) fun h' hit' hs => ?_
    exact ⟨_, [], rfl, HS.nil, ⟨rfl, Array.getElem?_eq_getElem hi⟩, ⟨hit', n1, n2, ol, k, hs.extBut _ _ hne e2, r2⟩, X.upd (t := s.toks) hb ho nc hs.extBut, Mv.upd (t := s.toks) ho hI f hs.extBut⟩
  done := fun s E ⟨hit, n1, n2, ol, k, e2, r2⟩ X => by
    obtain ⟨o, ho, f, nc⟩ := IsListIter.frz0 hit
    exact next_end rfl hit e2 r2 (Array.getElem?_eq_none (Nat.le_refl _)) fun h' hs => ⟨rfl, X.upd (t := s.toks) hb ho nc hs, Mv.upd (t := s.toks) ho hI f hs⟩
  self := fun i s A E Q st h => wpAny_pyIter_listiter st.1 h
  type := fun i s st => st.1.typeIs
  lt := hI
end
end

section
theorem codeAmong_other {p p' : Pos} {c : Value} (hne : p.line ≠ p'.line ∨ p.col ≠ p'.col) (l : List Value) (h : TriplesOk l) : codeAmong p (l ++ [rawInt p'.line, rawInt p'.col, c]) = codeAmong p l := by
  fun_induction TriplesOk l with
  | case1 =>
    show (if ((p'.line : Int) == p.line && (p'.col : Int) == p.col) = true then some c else none) = none
    rw [if_neg]
    intro q
    rw [Bool.and_eq_true, beq_iff_eq, beq_iff_eq] at q
    rcases hne with hne | hne
    · exact hne (by have := q.1; omega)
    · exact hne (by have := q.2; omega)
  | case2 a t b u x rest ih =>
    simp only [List.cons_append, codeAmong]
    split
    · rfl
    · exact ih h
  | case3 l h1 h2 => exact h.elim

theorem Ok.table {w : World} {h h' : Heap} {c P : Addr} {ps : Array Value} (ok : Ok w h) (ht : (c, P) ∈ tabs4) (hs : Heap.ExtBut P h h') (hc : h'.IsCode c P ps) (ha : h'.TableAt c P ps)
    (hch : ∀ cv, codeAmong chopPos ps.toList = some cv → P = 342 → ∃ c', cv = .ref c' ∧ c' ∉ T4 ∧ h'.CodeRec (.ref c') chopQual) : Ok w h' ∧ KT h h' := by
  have hP : P ∈ T4 := by
    simp only [tabs4, List.mem_cons, List.not_mem_nil, or_false, Prod.mk.injEq] at ht
    rcases ht with ⟨rfl, rfl⟩ | ⟨rfl, rfl⟩ | ⟨rfl, rfl⟩ | ⟨rfl, rfl⟩ <;> decide
  have kt : KT h h' := fun b o n e => hs b o (fun q => n (q ▸ hP)) e
  refine ⟨ok.kt kt fun q hq => ?_, kt⟩
  by_cases hqP : q.2 = P
  · have : q.1 = c := by
      obtain ⟨q1, q2⟩ := q
      dsimp only at hqP ⊢
      subst hqP
      simp only [tabs4, List.mem_cons, List.not_mem_nil, or_false, Prod.mk.injEq] at ht hq
      rcases ht with ⟨rfl, rfl⟩ | ⟨rfl, rfl⟩ | ⟨rfl, rfl⟩ | ⟨rfl, rfl⟩ <;> rcases hq with ⟨rfl, h⟩ | ⟨rfl, h⟩ | ⟨rfl, h⟩ | ⟨rfl, h⟩ <;> first | rfl | exact absurd h (by decide)
    rw [this, hqP]
    exact ⟨ps, hc, ha, hch⟩
  · have n1 : q.1 ≠ P := by
      obtain ⟨q1, q2⟩ := q
      dsimp only at hqP ⊢
      simp only [tabs4, List.mem_cons, List.not_mem_nil, or_false, Prod.mk.injEq] at ht hq
      rcases ht with ⟨rfl, rfl⟩ | ⟨rfl, rfl⟩ | ⟨rfl, rfl⟩ | ⟨rfl, rfl⟩ <;> rcases hq with ⟨rfl, h⟩ | ⟨rfl, h⟩ | ⟨rfl, h⟩ | ⟨rfl, h⟩ <;> decide
    obtain ⟨ps', a, b, e⟩ := (ok.tb q hq).go
    exact ⟨ps', a.extBut hs n1 hqP, b.extBut hs n1 hqP, fun cv e1 e2 => let ⟨c', f1, f2, cc, oc, vs, tq, g1, g2, g3⟩ := e cv e1 e2; ⟨c', f1, f2, cc, oc, vs, tq, g1, by cases g1; exact kt _ _ f2 g2, g3⟩⟩

section
variable {M : Model} {w : World} {A : Around} {E : Value → Shared → Prop} {s : Shared} {Q : Value → Shared → Prop}
theorem gx_code {env : Env} {c P : Addr} {pos : Pos} {qn : Str} {scope : Scope} (ok : Ok w s.heap) (hc : env.code = .ref c) (ht : (c, P) ∈ tabs4) (hp : P = 342 → chopPos.line ≠ pos.line ∨ chopPos.col ≠ pos.col)
    (h : ∀ code s', Bx w s s' → s'.gens = s.gens → s.heap.objs.size ≤ s'.heap.objs.size → Q code s') : wpAny M A (genexprCode env pos qn scope) Q E s := by
  obtain ⟨ps, a, b, hch⟩ := (ok.tb _ ht).go
  cases hf : codeAmong pos ps.toList with
  | some cv => exact wpAny_genexprCode_hit hc a hf (h _ _ (Bx.self ok) rfl (Nat.le_refl _))
  | none =>
    refine wpAny_genexprCodeX hc a b hf fun c' h' tk hs hz1 hz2 hc' _ ht' _ => ?_
    have htr : TriplesOk ps.toList := by obtain ⟨_, _, _, _, _, _, _, _, _, _, _, _, _, _, _, _, _, _, _, htr, _⟩ := a; exact htr
    obtain ⟨ok', kt'⟩ := ok.table ht hs hc' ht' fun cv e1 e2 => by
      have hl : (ps ++ #[rawInt pos.line, rawInt pos.col, Value.ref c']).toList = ps.toList ++ [rawInt pos.line, rawInt pos.col, .ref c'] := by simp
      rw [hl, codeAmong_other (hp e2) _ htr] at e1
      obtain ⟨c'', f1, f2, cc, oc, vs, tq, g1, g2, g3⟩ := hch cv e1 e2
      refine ⟨c'', f1, f2, cc, oc, vs, tq, g1, ?_, g3⟩
      cases g1
      exact hs _ _ (fun q => f2 (q ▸ by rw [show (c, P).2 = P from rfl, e2]; decide)) g2
    exact h _ _ ⟨ok, ok', kt', rfl, GE.refl _⟩ rfl (Nat.le_of_lt (Nat.lt_of_le_of_lt hz1 hz2))
end
end

section
/-! ## generator expressions -/
structure GS (w : World) (b : Shared) (cenv : Env) (cm : Str → Option Value) (S : List (Addr × Obj)) : Prop where
  nsf : b.heap.get? cenv.locals = none
  cell : ∀ n c, cenv.cells.lookup n = some c → b.heap.IsCell c (cm n)
  cn : ∀ p ∈ cenv.cells, p.2 ∉ T4
  apart : cenv.cells.Pairwise fun x y => x.2 ≠ y.2
  has : HS S b.heap
section
variable {w : World} {A : Around} {s₀ s s' b : Shared} {cenv : Env} {m cm : Str → Option Value} {S : List (Addr × Obj)} {v : Value} {N NG g : Nat}
theorem GS.fx (G : GS w b cenv cm S) (X : Bx w b s) (n : s.heap.Ns cenv.locals m) : Fx w b cenv ⟨.of false, []⟩ m cm S s :=
  ⟨X.ok₀, X.ok, X.kt, X.os, X.ge, n, G.nsf, fun k c e => Fx.cellKT (G.cell k c e) (G.cn _ (mem_of_lookup e)) X.kt, G.cn, G.apart, fun h => (nomatch h), G.has.kt X.kt, (fun p h => nomatch h), trivial⟩

structure FrG (N g : Nat) (s s' : Shared) : Prop where
  heap : ∀ a o, a < N → a ∉ T4 → s.heap.get? a = some o → s'.heap.get? a = some o
  gens : ∀ k, k < g → s'.gens[k]? = s.gens[k]?
theorem FrG.refl (s : Shared) : FrG N g s s := ⟨fun _ _ _ _ e => e, fun _ _ => rfl⟩
theorem FrG.trans {s'' : Shared} (x : FrG N g s s') (y : FrG N g s' s'') : FrG N g s s'' := ⟨fun a o h n e => y.heap a o h n (x.heap a o h n e), fun k h => (y.gens k h).trans (x.gens k h)⟩
theorem FrG.toFr {N' NG' : Nat} (x : FrG N g s s') (h : N' ≤ N) (h2 : NG' ≤ g) : Fr' N' NG' s s' := ⟨fun a o l n e => x.heap a o (Nat.lt_of_lt_of_le l h) n e, fun k l => x.gens k (Nat.lt_of_lt_of_le l h2)⟩
theorem Fr'.toG (x : Fr' N (g + 1) s s') : FrG N g s s' := ⟨x.heap, fun k h => x.gens k (Nat.lt_succ_of_lt h)⟩
theorem GE.fr {N' NG' : Nat} (k : KT s.heap s'.heap) (g' : GE s.gens s'.gens) {x : GenState} (e : s.gens[g]? = some x) (h : NG' ≤ g) : Fr' N' NG' s s' := ⟨fun a o _ n e => k a o n e, fun i l => by
  have hlt : g < s.gens.size := by
    rcases Nat.lt_or_ge g s.gens.size with h | h
    · exact h
    · rw [Array.getElem?_eq_none h] at e; cases e
  have hi : i < s.gens.size := Nat.lt_trans (Nat.lt_of_lt_of_le l h) hlt
  rw [Array.getElem?_eq_getElem hi]
  exact g'.keep i _ (Array.getElem?_eq_getElem hi)⟩

abbrev gxEnd (w : World) (b : Shared) (N g : Nat) (fl : Flow) : GenEnd := fun n s₀ r s₁ => r = .ok fl ∧ (n = 0 ∧ Bx w b s₁ ∧ Mv N (g + 1) s₀ s₁ ∧ s₁.gens[g]? = some .running)
abbrev gxY (w : World) (b : Shared) (N g n : Nat) (R : Nat → List (Addr × Obj) → Value → Prop) : Protocol := fun k s₀ v s kap =>
  (∃ T i, i + k + 1 = n ∧ HS T s.heap ∧ R i T v) ∧ Bx w b s ∧ Mv N (g + 1) s₀ s ∧ s.gens[g]? = some .running ∧ ∀ s'', FrG N g s s'' → Bx w b s'' → s''.gens[g]? = some .running → kap (.send .none) s''

theorem Amax_over {d : Nat} {elt target iter : Expr} {scope : Scope} {pos : Pos} {it : Value} (h : d + 2 ≤ 122) : AO d ((Amax (d + 2)).in1.over (.compLoop (.GeneratorExp elt [⟨target, iter, [], 0⟩] scope pos) 0 it .none cenv) []) :=
  ⟨rfl, by show 900 - (d + 2) + 0 + 1 + d ≤ 900; omega, by show 9800 - 80 * (d + 2) + 1 + 0 + 3 + 80 * d ≤ 9800; omega⟩

theorem seg_gx {I : Addr} {T₁ : String} {N₁ NG₁ n d : Nat} {R₁ R : Nat → List (Addr × Obj) → Value → Prop} {St₁ : Nat → Shared → Prop} {Bnd : Nat → List (Addr × Obj) → Value → (Str → Option Value) → Prop}
    {elt target iter : Expr} {scope : Scope} {pos : Pos} (I₁ : Itr w b I T₁ N₁ NG₁ n d R₁ St₁) (hd : d + 2 ≤ 122) (G : GS w b cenv cm S) (hC1 : N₁ ≤ cenv.locals) (hC2 : cenv.locals < N) (hg : NG₁ ≤ g) (hco : cenv.scope.isCoroutine = false)
    (hasg : ∀ A i v T s m', AO d A → R₁ i T v → HS T s.heap → St₁ (i + 1) s → Fx w b cenv ⟨.of false, []⟩ m' cm S s → wpAny (model P0 w) A (letOwnedTupleGo target (.ref I) v) (fun _ s₁ => wpAny (model P0 w) A (assign target cenv v) (fun _ s' => ∃ m'',
      Fx w b cenv ⟨.of false, []⟩ m'' cm S s' ∧ Bnd i T v m'' ∧ (∀ a o, a ≠ cenv.locals → s.heap.get? a = some o → s'.heap.get? a = some o) ∧ s'.gens = s.gens) (fun _ _ => False) s₁) (fun _ _ => False) s)
    (helt : ∀ A i v T s m', AO d A → R₁ i T v → HS T s.heap → Bnd i T v m' → Fx w b cenv ⟨.of false, []⟩ m' cm S s → wpAny (model P0 w) A (eval elt cenv) (Ret w s (R i)) (fun _ _ => False) s) :
    ∀ (k i : Nat) (s₀ s : Shared) (m : Str → Option Value), n - i = k → i ≤ n → St₁ i s → Bx w b s → s.heap.Ns cenv.locals m → s.gens[g]? = some .running → Mv N (g + 1) s₀ s →
      Seg (model P0 w) (Amax (d + 2)).in1 (gxEnd w b N g .next) (gxY w b N g n R) (n - i) s₀ (.compLoop (.GeneratorExp elt [⟨target, iter, [], 0⟩] scope pos) 0 (.ref I) .none cenv)
        ((model P0 w).den (.compLoop (.GeneratorExp elt [⟨target, iter, [], 0⟩] scope pos) 0 (.ref I) .none cenv)) [] s := by
  intro k
  have hA := Amax_over (cenv := cenv) (elt := elt) (target := target) (iter := iter) (scope := scope) (pos := pos) (it := .ref I) hd
  have hN : N₁ ≤ N := Nat.le_of_lt (Nat.lt_of_le_of_lt hC1 hC2)
  induction k with
  | zero =>
    intro i s₀ s m hk hi hst X hn hr hm
    have hin : i = n := by omega
    subst hin
    show Seg _ _ _ _ _ s₀ _ ((compTurn (.GeneratorExp elt [⟨target, iter, [], 0⟩] scope pos) 0 (.ref I) .none cenv).onRaise (leaving cenv)) [] s
    rw [compTurn_gen, Sem.onRaise_eq_wrap]
    refine seg_bind_wrap (wpAny_standAt ?_)
    refine seg_bind_wrap (wpAny_up hA (wpAny_mono (I₁.done s (fun _ _ => False) hst X) (fun o s' h => ?_) fun _ _ e => e.elim))
    obtain ⟨rfl, X', M'⟩ := h
    exact seg_end (.ok .next) ⟨rfl, by omega, X', hm.trans (M'.le hN (by omega)), M'.gens _ _ hg hr⟩
  | succ k ih =>
    intro i s₀ s m hk hi hst X hn hr hm
    have hlt : i < n := by omega
    show Seg _ _ _ _ _ s₀ _ ((compTurn (.GeneratorExp elt [⟨target, iter, [], 0⟩] scope pos) 0 (.ref I) .none cenv).onRaise (leaving cenv)) [] s
    rw [compTurn_gen, Sem.onRaise_eq_wrap]
    refine seg_bind_wrap (wpAny_standAt ?_)
    refine seg_bind_wrap (wpAny_up hA (wpAny_mono (I₁.item i s (fun _ _ => False) hlt hst X) (fun o s₁ h => ?_) fun _ _ e => e.elim))
    obtain ⟨v, T, rfl, hT, hR, hst₁, X₁, M₁⟩ := h
    have C4 : cenv.locals ∉ T4 := X.ok₀.fresh G.nsf
    have hn₁ : s₁.heap.Ns cenv.locals m := let ⟨o, es, ep, e, r⟩ := hn; ⟨o, es, ep, M₁.heap _ _ C4 (.inr hC1) e, r⟩
    have hr₁ := M₁.gens _ _ hg hr
    have H₁ := hasg _ i v T s₁ m hA hR hT hst₁ (G.fx X₁ hn₁)
    refine seg_bind_wrap (wpAny_mono H₁ (fun _ s₂ H₂ => ?_) fun _ _ e => e.elim)
    refine seg_bind_wrap (wpAny_mono H₂ (fun _ s₃ H₃ => ?_) fun _ _ e => e.elim)
    obtain ⟨m₃, X₃, hB, hk₃, hg₃⟩ := H₃
    obtain ⟨oL, es, ep, eL, dL, _⟩ := id hn₁
    have fL : frz oL = false := by unfold frz; rw [dL]
    have hT₃ : HS T s₃.heap := fun p hp => let ⟨a, c, f⟩ := hT p hp; ⟨hk₃ _ _ (fun q => by rw [q, eL] at a; cases a; rw [fL] at f; cases f) a, c, f⟩
    have fr₃ : Fr' N₁ NG₁ s₁ s₃ := ⟨fun a o l _ e => hk₃ a o (fun q => by rw [q] at l; exact absurd hC1 (Nat.not_le_of_lt l)) e, fun _ _ => by rw [hg₃]⟩
    have mv₃ : Mv N (g + 1) s₁ s₃ := ⟨fun a o _ q e => hk₃ a o (fun r => by
      rw [r, eL] at e; cases e
      rcases q with q | q
      · rw [fL] at q; cases q
      · rw [r] at q; exact absurd hC2 (Nat.not_lt_of_le q)) e, fun i x _ e => by rw [hg₃]; exact e⟩
    have hr₃ : s₃.gens[g]? = some .running := by rw [hg₃]; exact hr₁
    simp only [List.forIn_nil, pure_bind, if_true]
    have hy : ∀ v, yieldOut cenv v = yieldValue v := fun v => by simp only [yieldOut, hco, Bool.false_eq_true, if_false]
    simp only [hy]
    rw [Sem.bind_eq_wrap', Sem.bind_eq_wrap', Sem.wrap_wrap, Sem.wrap_wrap]
    refine seg_wrap (wpAny_mono (helt _ i v T s₃ m₃ hA hR hT₃ hB X₃) (fun y s₄ H₄ => ?_) fun _ _ e => e.elim)
    obtain ⟨T', hT', hR'⟩ := H₄.has
    have X₄ := X₃.bx.trans (H₄.bx X₃.ok)
    have fr₄ : Fr' N₁ NG₁ s₃ s₄ := GE.fr H₄.kt H₄.ge hr₃ hg
    have hn₄ : s₄.heap.Ns cenv.locals m₃ := Ns.kt X₃.ns C4 H₄.kt
    have hr₄ := H₄.ge.keep _ _ hr₃
    have hni : n - i = n - (i + 1) + 1 := by omega
    rw [hni]
    refine seg_at (seg_yield rfl rfl rfl ⟨⟨T', i, by omega, hT', hR'⟩, X₄, (hm.trans (M₁.le hN (by omega))).trans (mv₃.trans (Mv.of H₄.kt H₄.ge)), hr₄, fun s'' hf hX hr'' => ?_⟩)
    refine seg_again rfl (ih (i + 1) s'' s'' m₃ (by omega) hlt (I₁.frame _ _ _ (I₁.frame _ _ _ hst₁ (fr₃.trans fr₄)) (hf.toFr hN hg)) hX ?_ hr'' (Mv.refl _))
    obtain ⟨o, es, ep, e, r⟩ := hn₄
    exact ⟨o, es, ep, hf.heap _ _ hC2 C4 e, r⟩
end
end

section
section
variable {w : World} {A : Around} {E : Value → Shared → Prop} {s₀ s s' b : Shared} {cenv : Env} {m cm : Str → Option Value} {S : List (Addr × Obj)} {v : Value} {N NG g : Nat}

theorem seg_gxStart {I : Addr} {T₁ : String} {N₁ NG₁ n d : Nat} {R₁ R : Nat → List (Addr × Obj) → Value → Prop} {St₁ : Nat → Shared → Prop} {Bnd : Nat → List (Addr × Obj) → Value → (Str → Option Value) → Prop}
    {elt target iter : Expr} {scope : Scope} {pos : Pos} (I₁ : Itr w b I T₁ N₁ NG₁ n d R₁ St₁) (hd : d + 2 ≤ 122) (G : GS w b cenv cm S) (hC1 : N₁ ≤ cenv.locals) (hC2 : cenv.locals < N) (hg : NG₁ ≤ g) (hco : cenv.scope.isCoroutine = false)
    (hasg : ∀ A i v T s m', AO d A → R₁ i T v → HS T s.heap → St₁ (i + 1) s → Fx w b cenv ⟨.of false, []⟩ m' cm S s → wpAny (model P0 w) A (letOwnedTupleGo target (.ref I) v) (fun _ s₁ => wpAny (model P0 w) A (assign target cenv v) (fun _ s' => ∃ m'',
      Fx w b cenv ⟨.of false, []⟩ m'' cm S s' ∧ Bnd i T v m'' ∧ (∀ a o, a ≠ cenv.locals → s.heap.get? a = some o → s'.heap.get? a = some o) ∧ s'.gens = s.gens) (fun _ _ => False) s₁) (fun _ _ => False) s)
    (helt : ∀ A i v T s m', AO d A → R₁ i T v → HS T s.heap → Bnd i T v m' → Fx w b cenv ⟨.of false, []⟩ m' cm S s → wpAny (model P0 w) A (eval elt cenv) (Ret w s (R i)) (fun _ _ => False) s)
    (s : Shared) (m : Str → Option Value) (hst : St₁ 0 s) (X : Bx w b s) (hn : s.heap.Ns cenv.locals m) (hr : s.gens[g]? = some .running) :
      Seg (model P0 w) (Amax (d + 2)).in1 (gxEnd w b N g .next) (gxY w b N g n R) (n - 0) s (.compStart (.GeneratorExp elt [⟨target, iter, [], 0⟩] scope pos) 0 (.ref I) .none cenv)
        ((model P0 w).den (.compStart (.GeneratorExp elt [⟨target, iter, [], 0⟩] scope pos) 0 (.ref I) .none cenv)) [] s := by
  have loop := seg_gx (iter := iter) (scope := scope) (pos := pos) (N := N) I₁ hd G hC1 hC2 hg hco hasg helt n 0 s s m (Nat.sub_zero _) (Nat.zero_le _) hst X hn hr (Mv.refl _)
  show Seg _ _ _ _ _ s _ ((compStart (.GeneratorExp elt [⟨target, iter, [], 0⟩] scope pos) 0 (.ref I) .none cenv).onRaise (leaving cenv)) [] s
  unfold compStart
  rw [Sem.onRaise_eq_wrap]
  show Seg _ _ _ _ _ s _ ((ask >>= _).wrap _ _ _ _) [] s
  refine seg_bind_wrap (wpAny_askSetting ?_)
  split
  · exact seg_again rfl loop
  · first
      | exact seg_bind_wrap (wpAny_rule (seg_bind_wrap (wpAny_standAt (seg_bind_wrap (I₁.self 0 s _ _ _ hst (seg_again rfl loop))))))
      | (refine seg_bind_wrap (wpAny_rule ?_); show Seg _ _ _ _ _ s _ ((standAt iter.pos >>= _).wrap _ _ _ _) [] s; exact seg_bind_wrap (wpAny_standAt (seg_bind_wrap (I₁.self 0 s _ _ _ hst (seg_again rfl loop)))))

theorem next_gen {prog : Program} {a : Addr} {g n : Nat} {gs : GenState} {fl : Flow} {P : Nat → Shared → Shared → Prop} {Y : Protocol} {Q : Option Value → Shared → Prop} (hfl : fl = .next ∨ fl = .ret .none) (hh : A.handled = none)
    (hl : s.heap.NoLimit) (hroom : A.depth < recursionLimit) (hg : s.heap.IsGen a g) (hgs : s.gens[g]? = some gs)
    (hgo : gs.Goes (model prog w) A.in1 (fun n s₀ r s₁ => r = .ok fl ∧ P n s₀ s₁) Y n (.send .none) (s.setGen g .running))
    (hY : ∀ v s₁ gs', gs'.bare = true → Y (n - 1) (s.setGen g .running) v s₁ (fun r' s'' => match n with
        | 0 => False
        | m + 1 => gs'.Goes (model prog w) A.in1 (fun n s₀ r s₁ => r = .ok fl ∧ P n s₀ s₁) Y m r' s'') → Q (some v) (s₁.setGen g gs'))
    (hP : ∀ s₁, P n (s.setGen g .running) s₁ → ∀ h', (∀ b o, s₁.heap.get? b = some o → h'.get? b = some o) → Q none { s₁.setGen g .finished with heap := h' }) :
    wpAny (model prog w) A (pyNext (.ref a)) Q E s := by
  rcases hfl with rfl | rfl
  · exact wpAny_pyNext_genexpQ hh hl hroom hg hgs hgo hY hP
  · unfold pyNext
    refine wpAny_bind (wpAny_attempt (wpAny_callSpecial?_slot (name := Str.ofString "__next__") hg.typeIs slot_gen_next (wpAny_call_entry slot_gen_next hg.typeIs entry_gen_next ?_ (args_gen_next _))))
    show wpAny _ A.in1 (Builtin.Generator.genWake (.ref a) (.send .none)) _ _ s
    unfold Builtin.Generator.genWake
    refine wpAny_bind (wpAny_holding (wpAny_genNumber hg (wpAny_bind (wpAny_genState hgs ?_))))
    cases gs with
    | running => exact hgo.elim
    | finished => exact hgo.elim
    | _ =>
      refine wpAny_bind (wpAny_roomToWake hl hroom ?_)
      show wpAny _ A.in1 (.resume g (.send .none) [] _) _ _ s
      refine wpAny_resumeQ hgs hgo (fun x s₁ hx => ?_) (fun v s₁ gs' hb hv => ?_)
      · obtain ⟨rfl, hp⟩ := hx
        show wpAny _ A.in1 (newExc (.type "StopIteration") [] >>= _) _ _ _
        refine wpAny_bind ?_
        simp only [newExc, newTuple]
        refine wpAny_bind (wpAny_newObj_type ?_ (by size_fits))
        refine wpAny_bind (m := firstArgMember _ _) (wpAny_of_eq (a := Value.none) (by first | rfl | (simp only [firstArgMember]; rfl)) ?_)
        refine wpAny_newObj_type ?_ (by size_fits)
        simp only [raiseNew]
        refine wpAny_bind (wpAny_bind (wpAny_handled ?_))
        first | rw [show A.in1.handled = none from hh] | rw [hh]
        refine wpAny_throw ?_
        refine wpAny_bind (wpAny_isInstance (T := "StopIteration") (b := true) ⟨_, Heap.get?_push_size _ rfl, rfl⟩ isSubtype_stop ?_)
        exact wpAny_pure (hP s₁ hp _ fun b o hb => Heap.get?_push_of_some _ (Heap.get?_push_of_some _ hb))
      · exact wpAny_pure ⟨v, rfl, wpAny_pure (hY v s₁ gs' hb hv)⟩

def GenSt (w : World) (b : Shared) (a : Addr) (g N n d : Nat) (R : Nat → List (Addr × Obj) → Value → Prop) (fl : Flow) (j : Nat) (s : Shared) : Prop :=
  s.heap.IsGen a g ∧ a ∉ T4 ∧ ∃ gs, s.gens[g]? = some gs ∧ ∀ s'', FrG N g s s'' → Bx w b s'' → s''.gens[g]? = some .running → gs.Goes (model P0 w) (Amax d).in1 (gxEnd w b N g fl) (gxY w b N g n R) (n - j) (.send .none) s''

theorem FrG.set {x : GenState} : FrG N g s (s.setGen g x) := ⟨fun _ _ _ _ e => e, fun k h => by
  show (s.gens.setIfInBounds g x)[k]? = s.gens[k]?
  rw [Array.getElem?_setIfInBounds_ne (Nat.ne_of_gt h)]⟩
theorem Mv.set {x : GenState} : Mv N (g + 1) s (s.setGen g x) := ⟨fun _ _ _ _ e => e, fun k z h e => by
  show (s.gens.setIfInBounds g x)[k]? = _
  rw [Array.getElem?_setIfInBounds_ne (by omega)]; exact e⟩

theorem Itr.gen {a : Addr} {n d : Nat} {R : Nat → List (Addr × Obj) → Value → Prop} {fl : Flow} (hfl : fl = .next ∨ fl = .ret .none) (hb : b.gens[g]? = none) (ha : a < N) (hd : d ≤ 122) :
    Itr w b a "generator" N (g + 1) n d R (GenSt w b a g N n d R fl) where
  frame := fun j s s' ⟨⟨o, nm, qn, ho, r⟩, n4, gs, hgs, hgo⟩ f => ⟨⟨o, nm, qn, f.heap _ _ ha n4 ho, r⟩, n4, gs, (f.gens g (Nat.lt_succ_self _)).trans hgs, fun s'' fr => hgo s'' (f.toG.trans fr)⟩
  item := fun j s E hj st X => by
    obtain ⟨hg, n4, gs, hgs, hgo⟩ := st
    obtain ⟨k, hk⟩ : ∃ k, n - j = k + 1 := ⟨n - j - 1, by omega⟩
    rw [hk] at hgo
    refine next_gen (P := fun n s₀ s₁ => (n = 0 ∧ Bx w b s₁ ∧ Mv N (g + 1) s₀ s₁ ∧ s₁.gens[g]? = some .running)) hfl rfl X.ok.lim (AO.max hd).room hg hgs (hgo _ FrG.set (X.setGen hb rfl) (setGen_self hgs)) (fun v s₁ gs' hbare hv => ?_) (fun s₁ hp h' hk' => ?_)
    · obtain ⟨⟨T, i, hi, hT, hR⟩, X₁, M₁, hr₁, hkap⟩ := hv
      have hij : i = j := by omega
      subst hij
      have M : Mv N (g + 1) s (s₁.setGen g gs') := (Mv.set.trans M₁).trans Mv.set
      refine ⟨v, T, rfl, hT, hR, ⟨?_, n4, gs', setGen_self hr₁, fun s'' fr hX hr => ?_⟩, X₁.setGen hb hbare, M⟩
      · obtain ⟨o, nm, qn, ho, hc, hd', r⟩ := hg
        exact ⟨o, nm, qn, M.heap _ _ n4 (.inl (by unfold frz; rw [hd', hc]; rfl)) ho, hc, hd', r⟩
      · have e : n - (i + 1) = k := by omega
        rw [e]
        exact hkap s'' (FrG.set.trans fr) hX hr
    · exact absurd hp.1 (Nat.succ_ne_zero k)
  done := fun s E st X => by
    obtain ⟨hg, n4, gs, hgs, hgo⟩ := st
    rw [Nat.sub_self] at hgo
    refine next_gen (P := fun n s₀ s₁ => (n = 0 ∧ Bx w b s₁ ∧ Mv N (g + 1) s₀ s₁ ∧ s₁.gens[g]? = some .running)) hfl rfl X.ok.lim (AO.max hd).room hg hgs (hgo _ FrG.set (X.setGen hb rfl) (setGen_self hgs)) (fun v s₁ gs' hbare hv => ?_) (fun s₁ hp h' hk' => ?_)
    · obtain ⟨⟨T, i, hi, hT, hR⟩, X₁, M₁, hr₁, hkap⟩ := hv
      exact False.elim (hkap s₁ (FrG.refl _) X₁ hr₁)
    · obtain ⟨_, X₁, M₁, hr₁⟩ := hp
      refine ⟨rfl, (X₁.setGen hb rfl).grow (t := s₁.toks) hk', ?_⟩
      exact ((Mv.set.trans M₁).trans Mv.set).trans ⟨fun a o _ _ e => hk' a o e, fun _ _ _ e => e⟩
  self := fun i s A E Q st h => wpAny_pyIter_gen st.1 h
  type := fun i s st => st.1.typeIs
  lt := ha
end
end

section
section
variable {w : World} {A : Around} {E : Value → Shared → Prop} {s₀ s s' b : Shared} {env : Env} {m cm : Str → Option Value} {S : List (Addr × Obj)} {v : Value} {N NG g : Nat}

theorem bf {M : Model} {x : Addr} {Q : Addr → Shared → Prop} (ok : Ok w s.heap) (hg : env.globals = mainGlobals) (h : Q builtinsNs s) : wpAny M A (builtinsFor env.globals x) Q E s := by
  obtain ⟨mg, g⟩ := ok.g
  obtain ⟨bm, ob, h1, h2, h3, h4, h5, h6, h7, h8⟩ := ok.bm
  rw [hg]
  exact wpAny_builtinsFor g (mg_of ok.K g h8) h1 h4 h5 h6 h7 h

/-- a walk over things, ready -/
def Ready (w : World) (b : Shared) (a : Addr) (T : String) (n d : Nat) (R : Nat → List (Addr × Obj) → Value → Prop) (s : Shared) : Prop :=
  ∃ N NG St, Itr w b a T N NG n d R St ∧ St 0 s ∧ N ≤ s.heap.objs.size ∧ NG ≤ s.gens.size

theorem gx_fin {I : Addr} {T₁ : String} {n d : Nat} {R₁ R : Nat → List (Addr × Obj) → Value → Prop} {Bnd : Nat → List (Addr × Obj) → Value → (Str → Option Value) → Prop}
    {elt target iter : Expr} {scope : Scope} {pos : Pos} {cl : List (Str × Addr)} {c P : Addr} {qn q2 nm : Str} {Q : Value → Shared → Prop} (X : Bx w b s) (I₀ : Ready w b I T₁ n d R₁ s) (hd : d + 2 ≤ 122)
    (hcode : env.code = .ref c) (ht : (c, P) ∈ tabs4) (hp : P = 342 → chopPos.line ≠ pos.line ∨ chopPos.col ≠ pos.col) (hglob : env.globals = mainGlobals) (hsc : scope.isCoroutine = false) (hkind : scope.kind = .function)
    (Gcell : ∀ n c, cl.lookup n = some c → b.heap.IsCell c (cm n)) (Gcn : ∀ p ∈ cl, p.2 ∉ T4) (Gap : cl.Pairwise fun x y => x.2 ≠ y.2) (GS₀ : HS S b.heap)
    (hasg : ∀ cenv, EnvIs cenv scope.names → cenv.cells = cl → cenv.scope = scope → ∀ St₁ : Nat → Shared → Prop, (∀ i s, St₁ i s → s.TypeIs (.ref I) T₁) → ∀ A i v T s m', AO d A → R₁ i T v → HS T s.heap → St₁ (i + 1) s → Fx w b cenv ⟨.of false, []⟩ m' cm S s → wpAny (model P0 w) A (letOwnedTupleGo target (.ref I) v) (fun _ s₁ => wpAny (model P0 w) A (assign target cenv v) (fun _ s' => ∃ m'',
      Fx w b cenv ⟨.of false, []⟩ m'' cm S s' ∧ Bnd i T v m'' ∧ (∀ a o, a ≠ cenv.locals → s.heap.get? a = some o → s'.heap.get? a = some o) ∧ s'.gens = s.gens) (fun _ _ => False) s₁) (fun _ _ => False) s)
    (helt : ∀ cenv, EnvIs cenv scope.names → cenv.cells = cl → cenv.scope = scope → ∀ A i v T s m', AO d A → R₁ i T v → HS T s.heap → Bnd i T v m' → Fx w b cenv ⟨.of false, []⟩ m' cm S s → wpAny (model P0 w) A (eval elt cenv) (Ret w s (R i)) (fun _ _ => False) s)
    (h : ∀ a s', Ready w b a "generator" n (d + 2) R s' → Bx w b s' → Q (.ref a) s') :
    wpAny (model P0 w) A (genexprCode env pos qn scope) (fun code s₃ => wpAny (model P0 w) A (builtinsFor env.globals env.builtins) (fun bi s₄ =>
        ∀ h', h'.Ns s₄.heap.objs.size (fun y => if y = ".0" then some (.ref I) else none) → Heap.SameBut s₄.heap.objs.size (s₄.heap.push { cls := .type "frame", data := .dict #[] }) h' →
          Q (.ref h'.objs.size) { s₄ with
            gens := s₄.gens.push (.fresh (.compStart (.GeneratorExp elt [⟨target, iter, [], 0⟩] scope pos) 0 (.ref I) .none (genEnv scope cl s₄.heap.objs.size code bi env))),
            toks := s₄.toks + 1 + 1 + 1,
            heap := h'.push { cls := .type "generator", data := .fields #[.int s₄.gens.size 0, .str nm (s₄.toks + 1), .str q2 (s₄.toks + 1 + 1)] } }) E s₃) E s := by
  obtain ⟨N₁, NG₁, St₁, I₁, hst, hN, hNG⟩ := I₀
  refine gx_code X.ok hcode ht hp fun code s₃ Y hg₃ hz₃ => ?_
  have X₃ := X.trans Y
  refine bf X₃.ok hglob ?_
  intro h' hn' hs'
  have hsz : h'.objs.size = s₃.heap.objs.size + 1 := by rw [hs'.1, Heap.size_push]
  have keep' : ∀ b o, s₃.heap.get? b = some o → h'.get? b = some o := fun b o e => hs'.extBut b o (Nat.ne_of_lt (Heap.lt_size e)) (Heap.get?_push_of_some _ e)
  generalize hgo : ({ cls := .type "generator", data := .fields #[.int s₃.gens.size 0, .str nm (s₃.toks + 1), .str q2 (s₃.toks + 1 + 1)] } : Obj) = go
  have hgf : go.isFreed = false := by rw [← hgo]; rfl
  have keep₅ : ∀ b o, s₃.heap.get? b = some o → (h'.push go).get? b = some o := fun b o e => Heap.get?_push_of_some _ (keep' b o e)
  have hC : b.heap.get? s₃.heap.objs.size = none := X₃.new0 (Heap.get?_none_of_le (Nat.le_refl _))
  have hgn : b.gens[s₃.gens.size]? = none := by
    cases q : b.gens[s₃.gens.size]? with
    | none => rfl
    | some x => have := X₃.ge.keep _ _ q; rw [Array.getElem?_eq_none (Nat.le_refl _)] at this; cases this
  have a4 : h'.objs.size ∉ T4 := X.ok₀.fresh (X₃.new0 (Heap.get?_none_of_le (by omega)))
  have n₅ : (h'.push go).Ns s₃.heap.objs.size (fun y => if y = ".0" then some (.ref I) else none) := hn'.push _
  refine h _ _ ⟨h'.objs.size + 1, s₃.gens.size + 1, _, Itr.gen (fl := .next) (.inl rfl) hgn (Nat.lt_succ_self _) (by omega), ⟨⟨go, .str nm (s₃.toks + 1), .str q2 (s₃.toks + 1 + 1), Heap.get?_push_size _ hgf, by subst hgo; rfl, by subst hgo; rfl, by subst hgo; rfl⟩, a4, _, Array.getElem?_push_size .., fun s'' fr X'' hr => ⟨rfl, ?_⟩⟩, by rw [Heap.size_push]; exact Nat.le_refl _, by rw [Array.size_push]; exact Nat.le_refl _⟩
    (X₃.pushGen rfl keep₅)
  have hI : EnvIs (genEnv scope cl s₃.heap.objs.size code builtinsNs env) scope.names := ⟨hkind, hglob, rfl, rfl⟩
  refine seg_gxStart (cenv := genEnv scope cl s₃.heap.objs.size code builtinsNs env) I₁ hd ⟨hC, Gcell, Gcn, Gap, GS₀⟩ (Nat.le_trans hN hz₃) (by show s₃.heap.objs.size < _; omega) (by rw [hg₃]; exact hNG) hsc
    (hasg _ hI rfl rfl St₁ I₁.type) (helt _ hI rfl rfl) s'' (fun y => if y = ".0" then some (.ref I) else none) ?_ X'' ?_ hr
  · refine I₁.frame 0 s s'' hst ?_
    refine ⟨fun a o l n e => fr.heap a o (by omega) n (keep₅ _ _ (Y.kt a o n e)), fun k l => (fr.gens k (by rw [hg₃]; omega)).trans ?_⟩
    show (s₃.gens.push _)[k]? = _
    rw [hg₃, Array.getElem?_push_lt (by omega), Array.getElem?_eq_getElem]
  · obtain ⟨o, es, ep, e, r⟩ := n₅
    exact ⟨o, es, ep, fr.heap _ _ (by show s₃.heap.objs.size < _; omega) (X.ok₀.fresh hC) e, r⟩

theorem gx_eval {elt target iter : Expr} {scope : Scope} {pos : Pos} {cl : List (Str × Addr)} {c P : Addr} {Q : Value → Shared → Prop} (hclos : closureFor scope env = pure cl) (hcode : env.code = .ref c) (ht : (c, P) ∈ tabs4) (hp : P = 342 → chopPos.line ≠ pos.line ∨ chopPos.col ≠ pos.col)
    (hglob : env.globals = mainGlobals) (hroom : A.depth < recursionLimit) (hsc : scope.isCoroutine = false) (hcell : ∀ y ∈ scope.names, y.2 ≠ .cell) (h0 : scope.names.lookup (".0" : Str) = some NameKind.local) (hkind : scope.kind = .function) (hs : ∀ x, genFold iter env x = pure x)
    (h : wpAny (model P0 w) A (eval iter env) (fun xv s₁ => wpAny (model P0 w) A (pyIter xv) (fun it s₂ =>
      ∃ (b : Shared) (I : Addr) (T₁ : String) (n d : Nat) (R₁ R : Nat → List (Addr × Obj) → Value → Prop) (cm : Str → Option Value) (S : List (Addr × Obj)) (Bnd : Nat → List (Addr × Obj) → Value → (Str → Option Value) → Prop), it = .ref I ∧ Bx w b s₂ ∧ Ready w b I T₁ n d R₁ s₂ ∧ d + 2 ≤ 122 ∧ (∀ n c, cl.lookup n = some c → b.heap.IsCell c (cm n)) ∧ (∀ p ∈ cl, p.2 ∉ T4) ∧ (cl.Pairwise fun x y => x.2 ≠ y.2) ∧ HS S b.heap ∧
      (∀ cenv, EnvIs cenv scope.names → cenv.cells = cl → cenv.scope = scope → ∀ St₁ : Nat → Shared → Prop, (∀ i s, St₁ i s → s.TypeIs (.ref I) T₁) → ∀ A i v T s m', AO d A → R₁ i T v → HS T s.heap → St₁ (i + 1) s → Fx w b cenv ⟨.of false, []⟩ m' cm S s → wpAny (model P0 w) A (letOwnedTupleGo target (.ref I) v) (fun _ s₁ => wpAny (model P0 w) A (assign target cenv v) (fun _ s' => ∃ m'',
        Fx w b cenv ⟨.of false, []⟩ m'' cm S s' ∧ Bnd i T v m'' ∧ (∀ a o, a ≠ cenv.locals → s.heap.get? a = some o → s'.heap.get? a = some o) ∧ s'.gens = s.gens) (fun _ _ => False) s₁) (fun _ _ => False) s) ∧
      (∀ cenv, EnvIs cenv scope.names → cenv.cells = cl → cenv.scope = scope → ∀ A i v T s m', AO d A → R₁ i T v → HS T s.heap → Bnd i T v m' → Fx w b cenv ⟨.of false, []⟩ m' cm S s → wpAny (model P0 w) A (eval elt cenv) (Ret w s (R i)) (fun _ _ => False) s) ∧
      (∀ a s', Ready w b a "generator" n (d + 2) R s' → Bx w b s' → Q (.ref a) s')) E s₁) E s) :
    wpAny (model P0 w) A (eval (.GeneratorExp elt [⟨target, iter, [], 0⟩] scope pos) env) Q E s := by
  refine wpAny_GeneratorExp_make hsc hclos hcell h0 hkind hroom (wpAny_mono h (fun xv s₁ h₁ => wpAny_mono h₁ (fun it s₂ h₂ => ?_) fun _ _ e => e) fun _ _ e => e) hs
  obtain ⟨b, I, T₁, n, d, R₁, R, cm, S, Bnd, rfl, X, I₀, hd, h1, h2, h3, h4, h5, h6, h7⟩ := h₂
  exact ⟨X.ok.lim, gx_fin (Bnd := Bnd) (R := R) (Q := Q) X I₀ hd hcode ht hp hglob hsc hkind h1 h2 h3 h4 h5 h6 h7⟩
end
end

section
open Builtin Builtin.ObjectAttr

theorem ln_split : splitId "list.__new__" = some ("list", "__new__") := by decide +kernel
theorem ln_kind : builtinKind "list.__new__" = some .builtinFn := by decide +kernel
theorem ln_args (c : Addr) (l : List Value) : argsOk "list.__new__" ⟨.ref c :: l, []⟩ := by unfold argsOk; kernel_rfl

structure MakesL (M : Model) (h : Heap) (C : Addr) : Prop where
  obj : ∃ oc od cd sl, h.get? C = some ⟨oc, od, .cls cd, sl⟩ ∧ cd.hasDel = false ∧ cd.mro.isEmpty = false
  made : Looks M h (Bind.madeBy (.ref C)) (some "list.__new__")
  base : Looks M h (Bind.staticBase (.ref C)) (.ref C)
  self : Looks M h (isSubtype (.ref C) (.ref C)) true
  top : Looks M h (isSubtype (.ref C) (.type "list")) true
  call : Looks M h (specialOf (.ref C) "__call__") (some (.builtin "type.__call__"))
  typ : Looks M h (isInstance (.ref C) (.type "type")) true

def makesLIn (K : Frag) (C : Addr) : Bool := match K.lookup C with
  | some ⟨_, _, .cls cd, sl⟩ => !cd.hasDel && (sl.toList[4]?).join == some (.builtin "list.__new__") && !cd.mro.isEmpty && cd.mro.contains (.ref C) && cd.mro.contains (.type "list") &&
      specialIn K (.ref C) "__call__" == some (some (.builtin "type.__call__")) && instIn K (.ref C) (.type "type") == some true
  | _ => false
theorem makesL_of {K : Frag} {M : Model} {h : Heap} (X : K.In h) {C : Addr} (e : makesLIn K C = true) : MakesL M h C := by
  unfold makesLIn at e
  split at e
  · rename_i oc od cd sl ho
    simp only [Bool.and_eq_true, Bool.not_eq_true', beq_iff_eq] at e
    obtain ⟨⟨⟨⟨⟨⟨e2, e3⟩, e4⟩, e5⟩, e6⟩, e7⟩, e8⟩ := e
    have hc : clsIn K C = some cd := by unfold clsIn; rw [ho]
    have hm : Looks M h (mroOf (.ref C)) cd.mro := (looks_clsIn X hc).andThen .now
    obtain ⟨c, l, hl⟩ : ∃ c l, cd.mro = c :: l := by cases q : cd.mro with | nil => rw [q] at e4; cases e4 | cons c l => exact ⟨c, l, rfl⟩
    have made : Looks M h (Bind.madeBy (.ref C)) (some "list.__new__") := by
      intro A Q E s k q
      unfold Bind.madeBy
      refine wpAny_bind (hm A _ E s k ?_)
      rw [hl, List.forIn_cons]
      refine wpAny_bind (wpAny_bind (wpAny_bind (wpAny_bind (wpAny_loadPart (k _ _ (X _ _ ho)) (wpAny_pure ?_)))))
      dsimp only
      rw [← Array.getElem?_toList, e3]
      exact wpAny_pure (wpAny_pure (wpAny_pure q))
    refine ⟨⟨oc, od, cd, sl, X _ _ ho, e2, e4⟩, made, ?_, looks_mroIn X ?_, looks_mroIn X ?_, looks_specialIn X e7, looks_instIn X e8⟩
    · intro A Q E s k q
      unfold Bind.staticBase
      refine wpAny_bind (hm A _ E s k ?_)
      rw [hl, List.forIn_cons]
      exact wpAny_bind (wpAny_bind (wpAny_bind (made A _ E s k (wpAny_pure (wpAny_pure (wpAny_pure q))))))
    · unfold mroIn; rw [hc, Option.bind_some, if_neg (by rw [e4]; decide), e5]
    · unfold mroIn; rw [hc, Option.bind_some, if_neg (by rw [e4]; decide), e6]
  · cases e

abbrev listInst (C dx : Addr) (vs : Array Value) (k : Nat) : Obj := { cls := .ref C, dict := some dx, data := .seq vs k }

section
variable {prog : Program} {w : World} {A : Around} {C : Addr} {R : Result → Shared → Prop} {h : Heap} {g : Array GenState} {d : Drawn} {t : Nat} {os : OsState}
set_option maxHeartbeats 4000000
theorem new_L {rest : List Value} (Y : MakesL (model prog w) h C) (hq : R (.ok (.ret (.ref (h.objs.size + 1)))) ⟨(h.push emptyDict).push (listInst C h.objs.size #[] 0), g, d, t, os⟩) :
    codeAny (model prog w) A (.call (.builtin "list.__new__") ⟨.ref C :: rest, []⟩) R ⟨h, g, d, t, os⟩ := by
  obtain ⟨⟨oc, od, cd, sl, hC, e2, e4⟩, made, base, self, top, call, typ⟩ := Y
  refine codeAny_of_tree ?_
  show wpAny _ A.in1 (do checkBuiltinCall "list.__new__" ⟨.ref C :: rest, []⟩; again (.builtin "list.__new__" ⟨.ref C :: rest, []⟩)) _ _ _
  refine wpAny_bind ?_
  have ha := ln_args C rest
  simp only [checkBuiltinCall, ln_kind, ln_split]
  unfold isType
  repeat (first | simp only [bne_self_eq_false, Bool.false_eq_true, if_false] | lk)
  refine ⟨plainId_quiet F.plain_list_new _, codeAny_builtin_stack F.entry_list_new rfl fun p st => ?_⟩
  rw [Around.under_plainId F.plain_list_new _]
  simp only [owner_list_new]
  unfold isType
  have hC' := Heap.get?_push_of_some (listInst C h.objs.size #[] 0) (Heap.get?_push_of_some emptyDict hC)
  have hC2 : ((h.push emptyDict).push (listInst C h.objs.size #[] 0)).get? C = some { cls := oc, dict := od, data := Data.cls cd, slots := sl } := hC'
  repeat (first | simp only [bne_self_eq_false, Bool.false_eq_true, if_false, Bool.not_true] | lk)
  simp only [e2, Bool.false_eq_true, if_false]
  refine wpAny_pure (wpAny_pure ?_)
  rw [Heap.size_push]
  exact hq

theorem make_L {rest : List Value} {init : Value} (Y : MakesL (model prog w) h C) (hi : Looks (model prog w) h (typeLookup (.ref C) "__init__") (some init))
    (hb : ∀ self, Looks (model prog w) h (bindSpecial init self) (init, [self]))
    (hq : codeAny (model prog w) (A.under (.builtin "type.__call__" ⟨.ref C :: rest, []⟩)) (.call init ⟨.ref (h.objs.size + 1) :: rest, []⟩) (InitBack (h.objs.size + 1) R) ⟨(h.push emptyDict).push (listInst C h.objs.size #[] 0), g, d, t, os⟩) :
    codeAny (model prog w) A (.call (.ref C) ⟨rest, []⟩) R ⟨h, g, d, t, os⟩ := by
  have Y' := Y
  obtain ⟨⟨oc, od, cd, sl, hC, e2, e4⟩, made, base, self, top, call, typ⟩ := Y
  refine codeAny_of_tree ?_
  show wpAny _ _ (callAny (.ref C) _) _ _ _
  refine nd_load hC ?_
  show wpAny _ _ (callAny.viaDunder (.ref C) _) _ _ _
  unfold callAny.viaDunder
  refine wpAny_bind (call.at ?_)
  dsimp only
  rw [tc_bind]
  refine wpAny_bind (wpAny_pure (wpAny_bind (wpAny_pure ?_)))
  refine wpAny_pure (a := Fin.again (.call (.builtin "type.__call__") ⟨.ref C :: rest, []⟩)) (And.intro rfl ?_)
  refine codeAny_call_builtin_at (Code.quiet_builtin _ (by decide +kernel)) entry_typeCall (check_slot tc_kind tc_split typ (tc_args _ _ _) ?_)
  unfold Builtin.«type.__call__»
  have hm : Looks (model prog w) h (mroOf (.ref C)) cd.mro := ((Looks.ld (part := none) hC).andThen .now).andThen .now
  repeat (first | simp only [e4, Bool.false_eq_true, if_false] | with_reducible refine wpAny_call ?_ | lk)
  refine new_L Y' ?_
  have k : ∀ b o, h.get? b = some o → ((h.push emptyDict).push (listInst C h.objs.size #[] 0)).get? b = some o := fun b o e => Heap.get?_push_of_some _ (Heap.get?_push_of_some _ e)
  have hx : ((h.push emptyDict).push (listInst C h.objs.size #[] 0)).get? (h.objs.size + 1) = some (listInst C h.objs.size #[] 0) := by heap_get
  have t1 : Looks (model prog w) ((h.push emptyDict).push (listInst C h.objs.size #[] 0)) (typeOf (.ref (h.objs.size + 1))) (.ref C) := (Looks.ld hx).andThen .now
  have s1 := self.keeps k
  have i1 := hi.keeps k
  have b1 := (hb (.ref (h.objs.size + 1))).keeps k
  unfold isInstance callSpecial? specialOf
  repeat (first | with_reducible refine wpAny_call ?_ | lk)
  refine codeAny_mono hq fun r s' z => ?_
  rcases r with e | (v | _ | _ | _) <;> first | exact z | exact z.elim | skip
  obtain ⟨rfl, z⟩ := z
  exact wpAny_pure (wpAny_pure z)
end
end

section
open Builtin Builtin.ObjectAttr

def Acc (R : Nat → List (Addr × Obj) → Value → Prop) (i : Nat) (F : List (Addr × Obj)) (acc : Array Value) : Prop := acc.size = i ∧ ∀ j v, acc[j]? = some v → ∃ T, (∀ p ∈ T, p ∈ F) ∧ R j T v
theorem Acc.nil {R : Nat → List (Addr × Obj) → Value → Prop} : Acc R 0 [] #[] := ⟨rfl, fun j v h => by simp at h⟩
theorem Acc.push {R : Nat → List (Addr × Obj) → Value → Prop} {i : Nat} {F T : List (Addr × Obj)} {acc : Array Value} {v : Value} (h : Acc R i F acc) (hv : R i T v) : Acc R (i + 1) (F ++ T) (acc.push v) := by
  refine ⟨by rw [Array.size_push, h.1], fun j x e => ?_⟩
  rw [Array.getElem?_push] at e
  split at e
  · rename_i q
    cases e
    rw [q, h.1]
    exact ⟨T, fun p m => List.mem_append_right _ m, hv⟩
  · obtain ⟨T', a, b⟩ := h.2 j x e
    exact ⟨T', fun p m => List.mem_append_left _ (a p m), b⟩

abbrev LO (cl : Value) (dc : Option Addr) (acc : Array Value) (k : Nat) : Obj := { cls := cl, dict := dc, data := .seq acc k }
section
variable {w : World} {A : Around} {E : Value → Shared → Prop} {s s' b : Shared} {N NG n d : Nat} {R : Nat → List (Addr × Obj) → Value → Prop} {St : Nat → Shared → Prop} {Rr : Result → Shared → Prop} {a SS dx : Addr} {T : String} {res : Value} {cl : Value} {dc : Option Addr}

theorem HS.notAt {F : List (Addr × Obj)} {h : Heap} (hF : HS F h) {a : Addr} {o : Obj} (e : h.get? a = some o) (hc : ∀ p ∈ F, p.2.cls ≠ o.cls) : ∀ p ∈ F, p.1 ≠ a := fun p m q => by
  obtain ⟨h1, _, _⟩ := hF p m
  rw [q, e] at h1; cases h1; exact hc p m rfl
theorem HS.updOther {F : List (Addr × Obj)} {h h' : Heap} (hF : HS F h) {a : Addr} (n : ∀ p ∈ F, p.1 ≠ a) (hs : Heap.ExtBut a h h') : HS F h' := fun p m => let ⟨x, y, z⟩ := hF p m; ⟨hs _ _ (n p m) x, y, z⟩

theorem ext_loop {KK : Heap → Prop} (hK1 : ∀ s s' : Shared, Mv N NG s s' → KK s.heap → KK s'.heap) (hK2 : ∀ h h', Heap.ExtBut SS h h' → KK h → KK h') (I : Itr w b a T N NG n d R St) (hfz : iterCls cl = false) (hfr : ∀ i (s : Shared) h', St i s → Heap.ExtBut SS s.heap h' → St i { s with heap := h' }) (hSb : b.heap.get? SS = none) (hn : n ≤ 100000) (hA : AO (d + 1) A) (hRT : ∀ j T v, R j T v → ∀ p ∈ T, p.2.cls ≠ cl)
    (hR : ∀ s' acc k F, Bx w b s' → HS F s'.heap → s'.heap.get? SS = some (LO cl dc acc k) → Acc R n F acc → (∀ p ∈ F, p.2.cls ≠ cl) → KK s'.heap → Rr (.ok (.ret res)) s') :
    ∀ (m i : Nat) (s : Shared) (acc : Array Value) (k : Nat) (F : List (Addr × Obj)), n - i = m → i ≤ n → St i s → Bx w b s → HS F s.heap → s.heap.get? SS = some (LO cl dc acc k) → Acc R i F acc → (∀ p ∈ F, p.2.cls ≠ cl) → KK s.heap →
      codeAny (model P0 w) A (.builtin "list.extend.loop" ⟨[.ref SS, .ref a, res], []⟩) Rr s := by
  intro m
  induction m with
  | zero =>
    intro i s acc k F hm hi hst X hF hS hacc hFc hKK
    have : i = n := by omega
    subst this
    refine codeAny_builtin PySem.F.entry_extend_loop ?_
    rw [Around.under_plainId PySem.F.plain_extend_loop _]
    show wpAny _ A.in1 (pyNext (.ref a) >>= _) _ _ s
    refine wpAny_bind (wpAny_up hA.in1 (wpAny_mono (I.done s (fun _ _ => False) hst X) (fun o s' h => ?_) fun _ _ e => e.elim))
    obtain ⟨rfl, X', M⟩ := h
    have S4 : SS ∉ T4 := X.ok₀.fresh hSb
    exact wpAny_pure (hR _ _ _ _ X' (M.hs hF) (M.heap _ _ S4 (.inl (by unfold frz; rw [hfz]; rfl)) hS) hacc hFc (hK1 _ _ M hKK))
  | succ m ih =>
    intro i s acc k F hm hi hst X hF hS hacc hFc hKK
    refine codeAny_builtin PySem.F.entry_extend_loop ?_
    rw [Around.under_plainId PySem.F.plain_extend_loop _]
    show wpAny _ A.in1 (pyNext (.ref a) >>= _) _ _ s
    refine wpAny_bind (wpAny_up hA.in1 (wpAny_mono (I.item i s (fun _ _ => False) (by omega) hst X) (fun o s' h => ?_) fun _ _ e => e.elim))
    obtain ⟨v, T', rfl, hT, hv, hst', X', M⟩ := h
    have S4 : SS ∉ T4 := X.ok₀.fresh hSb
    have hS' := M.heap _ _ S4 (.inl (by unfold frz; rw [hfz]; rfl)) hS
    have hF' : HS (F ++ T') s'.heap := (M.hs hF).app hT
    have hFc' : ∀ p ∈ F ++ T', p.2.cls ≠ cl := fun p m => (List.mem_append.mp m).elim (hFc p) (hRT _ _ _ hv p)
    show wpAny _ A.in1 (updateSeq SS (·.push v) >>= fun _ => again _) _ _ s'
    have hsz : acc.size < n := by rw [hacc.1]; omega
    refine wpAny_bind (wpAny_updateSeq hS' rfl ?_ ?_)
    · have hS₂ := Heap.get?_update_self (Obj.mapSeq (·.push v)) hS' rfl
      have hx := (Heap.SameBut.update (h := s'.heap) (a := SS) (f := Obj.mapSeq (·.push v))).extBut
      refine wpAny_pure ⟨plainId_quiet PySem.F.plain_extend_loop _, ih (i + 1) _ (acc.push v) _ (F ++ T') (by omega) (by omega) (hfr _ _ _ hst' hx)
        (X'.upd (t := s'.toks) hSb hS' (.seq rfl) hx) (hF'.updOther (hF'.notAt hS' (fun p m => hFc' p m)) hx) hS₂ (hacc.push hv) hFc' (hK2 _ _ hx (hK1 _ _ M hKK))⟩
    · rw [sizeLine_eq]; omega

theorem li_kind : builtinKind "list.__init__" = some .slot := by decide +kernel
theorem li_split : splitId "list.__init__" = some ("list", "__init__") := by decide +kernel

theorem extw {KK : Heap → Prop} (hK1 : ∀ N NG, N ≤ s.heap.objs.size → ∀ s s' : Shared, Mv N NG s s' → KK s.heap → KK s'.heap) (hK2 : ∀ h h', Heap.ExtBut SS h h' → KK h → KK h') (hfz : iterCls cl = false) (X : Bx w b s) (I : Ready w b a "generator" n d R s) (hn : n ≤ 100000) (hA : AO (d + 1) A) (hRT : ∀ j T v, R j T v → ∀ p ∈ T, p.2.cls ≠ cl) (hSb : b.heap.get? SS = none) {h' : Heap} {k₀ : Nat} (hs : ∀ a o, s.heap.get? a = some o → h'.get? a = some o)
    (hSS : s.heap.objs.size ≤ SS) (hS2 : h'.get? SS = some (LO cl dc #[] k₀)) (hx : ∀ o, o ∈ s.heap.get? SS → False) (hKK : KK h')
    (hR : ∀ s' acc k F, Bx w b s' → HS F s'.heap → s'.heap.get? SS = some (LO cl dc acc k) → Acc R n F acc → (∀ p ∈ F, p.2.cls ≠ cl) → KK s'.heap → Rr (.ok (.ret res)) s') :
    wpAny (model P0 w) A.in1 (Builtin.List.listExtendWith (.ref SS) (.ref a) res)
      (fun fin s' => match fin with | .done f => Rr (.ok f) s' | .again c' => c'.quiet = true ∧ codeAny (model P0 w) A c' Rr s') (fun e s' => Rr (.error e) s') { s with heap := h' } := by
  obtain ⟨N, NG, St, I, hst, hN, hNG⟩ := I
  have hne : SS ≠ a := fun q => by rw [q] at hSS; exact Nat.lt_irrefl _ (Nat.lt_of_lt_of_le I.lt (Nat.le_trans hN hSS))
  have X2 : Bx w b { s with heap := h' } := X.grow (t := s.toks) hs
  have st2 : St 0 { s with heap := h' } := I.frame _ _ _ hst ⟨fun a o _ _ e => hs a o e, fun _ _ => rfl⟩
  have upds : ∀ (f : Array Value → Array Value) (s₁ : Shared) (acc : Array Value) (k : Nat), Bx w b s₁ → St 0 s₁ → s₁.heap.get? SS = some (LO cl dc acc k) →
      Bx w b { s₁ with heap := s₁.heap.update SS (Obj.mapSeq f) } ∧ St 0 { s₁ with heap := s₁.heap.update SS (Obj.mapSeq f) } := by
    intro f s₁ acc k Y st e
    have hx := (Heap.SameBut.update (h := s₁.heap) (a := SS) (f := Obj.mapSeq f)).extBut
    exact ⟨Y.upd (t := s₁.toks) hSb e (.seq rfl) hx, I.frame _ _ _ st ⟨fun a o l _ e => hx _ _ (fun q => by rw [q] at l; exact Nat.lt_irrefl _ (Nat.lt_of_lt_of_le l (Nat.le_trans hN hSS))) e, fun _ _ => rfl⟩⟩
  unfold Builtin.List.listExtendWith
  refine wpAny_bind (wpAny_typeOf (I.type 0 _ st2) ?_)
  have h1 : Builtin.List.listSameRef (.ref SS) (.ref a) = false := by simp [Builtin.List.listSameRef, hne]
  have h2 : (Value.type "generator" == Value.type "list") = false := by decide
  have h3 : (Value.type "generator" == Value.type "tuple") = false := by decide
  simp only [h1, h2, h3, Bool.or_false, Bool.false_eq_true, if_false]
  refine wpAny_bind (I.self 0 _ _ _ _ st2 ?_)
  refine wpAny_bind (wpAny_holding ?_)
  unfold Builtin.List.listLengthHint
  refine wpAny_bind (wpAny_specialOf (I.type 0 _ st2) PySem.F.gen_no_len ?_)
  show wpAny _ A.in1 (specialOf (Value.ref a) (Str.ofString "__length_hint__") >>= _) _ _ _
  refine wpAny_bind (wpAny_specialOf (I.type 0 _ st2) PySem.F.gen_no_hint ?_)
  refine wpAny_pure ?_
  show wpAny _ A.in1 (rule "list.extend.makes-room" >>= fun _ => Builtin.List.listTouch (.ref SS) >>= fun _ => again (.builtin "list.extend.loop" ⟨[.ref SS, .ref a, res], []⟩)) _ _ _
  refine wpAny_bind (wpAny_rule ?_)
  refine wpAny_bind ?_
  show wpAny _ A.in1 (updateSeq SS (·.push .none) >>= fun _ => updateSeq SS (·.pop)) _ _ _
  obtain ⟨X3, st3⟩ := upds (·.push .none) _ _ _ X2 st2 hS2
  refine wpAny_bind (wpAny_updateSeq hS2 rfl ?_)
  have hS3 := Heap.get?_update_self (Obj.mapSeq (·.push Value.none)) hS2 rfl
  obtain ⟨X4, st4⟩ := upds (·.pop) _ _ _ X3 st3 hS3
  refine wpAny_updateSeq (hz := by seq_fits) hS3 rfl ?_
  have hS4 := Heap.get?_update_self (Obj.mapSeq (·.pop)) hS3 rfl
  refine wpAny_pure ⟨plainId_quiet PySem.F.plain_extend_loop _, ?_⟩
  have hKa := hK2 _ _ (Heap.SameBut.update (h := _) (a := SS) (f := Obj.mapSeq (·.push .none))).extBut hKK
  have hKb := hK2 _ _ (Heap.SameBut.update (h := _) (a := SS) (f := Obj.mapSeq (·.pop))).extBut hKa
  exact ext_loop (hK1 _ _ hN) hK2 I hfz (fun i s h' st hx => I.frame _ _ _ st ⟨fun a o l _ e => hx _ _ (fun q => by rw [q] at l; exact Nat.lt_irrefl _ (Nat.lt_of_lt_of_le l (Nat.le_trans hN hSS))) e, fun _ _ => rfl⟩) hSb hn hA hRT hR n 0 _ #[] _ [] (Nat.sub_zero _) (Nat.zero_le _) st4 X4 HS.nil hS4 Acc.nil (fun p h => nomatch h) hKb

theorem ext_gen {KK : Heap → Prop} (hK1 : ∀ N NG, N ≤ s.heap.objs.size → ∀ s s' : Shared, Mv N NG s s' → KK s.heap → KK s'.heap) (hK2 : ∀ h h', Heap.ExtBut SS h h' → KK h → KK h') (hfz : iterCls cl = false) (X : Bx w b s) (I : Ready w b a "generator" n d R s) (hn : n ≤ 100000) (hA : AO (d + 1) A) (hRT : ∀ j T v, R j T v → ∀ p ∈ T, p.2.cls ≠ cl) (hnew : s.heap.get? SS = none) {h' : Heap} (hs : ∀ a o, s.heap.get? a = some o → h'.get? a = some o)
    (hSS : s.heap.objs.size ≤ SS) (hS : h'.get? SS = some (LO cl dc #[] 0)) (hKK : KK h')
    (hR : ∀ s' acc k F, Bx w b s' → HS F s'.heap → s'.heap.get? SS = some (LO cl dc acc k) → Acc R n F acc → (∀ p ∈ F, p.2.cls ≠ cl) → KK s'.heap → Rr (.ok (.ret .none)) s') :
    wpAny (model P0 w) A.in1 (Builtin.«list.__init__» ⟨[.ref SS, .ref a], []⟩)
      (fun fin s' => match fin with | .done f => Rr (.ok f) s' | .again c' => c'.quiet = true ∧ codeAny (model P0 w) A c' Rr s') (fun e s' => Rr (.error e) s') { s with heap := h' } := by
  show wpAny _ A.in1 (do let old ← Builtin.List.listItems (.ref SS); Builtin.List.listUpdate (.ref SS) (fun _ => #[]); letGo old.toList.reverse; Builtin.List.listExtendWith (.ref SS) (.ref a) .none) _ _ _
  refine wpAny_bind ?_
  unfold Builtin.List.listItems
  refine wpAny_bind (wpAny_seqItems hS rfl (wpAny_pure ?_))
  show wpAny _ A.in1 (updateSeq SS (fun _ => #[]) >>= fun _ => letGo (#[] : Array Value).toList.reverse >>= fun _ => Builtin.List.listExtendWith (.ref SS) (.ref a) .none) _ _ _
  refine wpAny_bind (wpAny_updateSeq hS rfl ?_)
  have hS2 := Heap.get?_update_self (Obj.mapSeq (fun _ => (#[] : Array Value))) hS rfl
  have hx := (Heap.SameBut.update (h := h') (a := SS) (f := Obj.mapSeq (fun _ => (#[] : Array Value)))).extBut
  refine wpAny_bind (wpAny_letGo ?_)
  exact extw hK1 hK2 hfz X I hn hA hRT (X.new0 hnew) (fun a o e => hx _ _ (fun q => by rw [q, hnew] at e; cases e) (hs _ _ e)) hSS hS2 (fun o e => by rw [hnew] at e; cases e) (hK2 _ _ hx hKK) hR

theorem Tags_genD (X : Bx w b s) (I : Ready w b a "generator" n d R s) (hn : n ≤ 100000) (hA : AO (d + 4) A) (hRT : ∀ j T v, R j T v → ∀ p ∈ T, p.2.cls ≠ .ref 335) :
    wpAny (model P0 w) A (call (.ref 335) [.ref a]) (fun r s' => ∃ t dx acc k F, r = .ref t ∧ Bx w b s' ∧ HS ((t, listInst 335 dx acc k) :: F) s'.heap ∧ Acc R n F acc ∧ (∀ p ∈ F, p.2.cls ≠ .ref 335) ∧ s'.heap.get? dx = some emptyDict ∧ s.heap.get? dx = none ∧ s.heap.get? t = none) E s := by
  obtain ⟨hh, g, dr, t, os⟩ := s
  have hk : ∀ a o, hh.get? a = some o → ((hh.push emptyDict).push (listInst 335 hh.objs.size #[] 0)).get? a = some o := fun b o e => Heap.get?_push_of_some _ (Heap.get?_push_of_some _ e)
  have nx : hh.get? (hh.objs.size + 1) = none := Heap.get?_none_of_le (Nat.le_succ _)
  have nd : hh.get? hh.objs.size = none := Heap.get?_none_of_le (Nat.le_refl _)
  have gd : ((hh.push emptyDict).push (listInst 335 hh.objs.size #[] 0)).get? hh.objs.size = some emptyDict := by heap_get
  have gx : ((hh.push emptyDict).push (listInst 335 hh.objs.size #[] 0)).get? (hh.objs.size + 1) = some (listInst 335 hh.objs.size #[] 0) := by heap_get
  refine wpAny_call (make_L (makesL_of X.ok.K (by kernel_rfl)) (looks_findIn X.ok.K (show findIn (KF w) (.ref 335) "__init__" = some (some (.builtin "list.__init__")) by kernel_rfl)) (fun self => Looks.of_pure (PySem.F.slot_list_init.bind self)) ?_)
  have hsub : Looks (model P0 w) ((hh.push emptyDict).push (listInst 335 hh.objs.size #[] 0)) (isInstance (.ref (hh.objs.size + 1)) (.type "list")) true :=
    ((Looks.ld gx).andThen .now).andThen ((looks_mroIn (M := model P0 w) X.ok.K (by kernel_rfl : mroIn (KF w) 335 (.type "list") = some true)).keeps hk)
  refine codeAny_call_builtin PySem.F.slot_list_init.plain PySem.F.entry_list_init (@check_slot (model P0 w) _ _ _ "list.__init__" "list" "__init__" (.ref (hh.objs.size + 1)) [.ref a] [] _ li_kind li_split hsub (PySem.F.args_list_init_2 _ _) ?_)
  refine ext_gen (KK := fun h => h.get? hh.objs.size = some emptyDict) (fun N NG hN s s' M e => M.heap _ _ (X.ok.fresh nd) (.inr hN) e) (fun h h' hx e => hx _ _ (Nat.ne_of_lt (Nat.lt_succ_self _)) e) (cl := .ref 335) (dc := some hh.objs.size) (s := ⟨hh, g, dr, t, os⟩) rfl X I hn (hA.tcall.le (by omega)) hRT nx hk (Nat.le_succ _) gx gd ?_
  intro s' acc k F X' hF hS hacc hFc hKK
  exact ⟨rfl, _, _, _, _, _, rfl, X', hF.cons hS (X.ok.fresh nx) rfl, hacc, hFc, hKK, nd, nx⟩

theorem Tags_gen (X : Bx w b s) (I : Ready w b a "generator" n d R s) (hn : n ≤ 100000) (hA : AO (d + 4) A) (hRT : ∀ j T v, R j T v → ∀ p ∈ T, p.2.cls ≠ .ref 335) :
    wpAny (model P0 w) A (call (.ref 335) [.ref a]) (Ret w b (fun S' r => ∃ t dx acc k F, r = .ref t ∧ S' = (t, listInst 335 dx acc k) :: F ∧ Acc R n F acc ∧ ∀ p ∈ F, p.2.cls ≠ .ref 335)) E s :=
  wpAny_mono (Tags_genD X I hn hA hRT) (fun r s' ⟨t, dx, acc, k, F, e, X', hF, hacc, hFc, _⟩ => X'.ret hF ⟨t, dx, acc, k, F, e, rfl, hacc, hFc⟩) fun _ _ e => e

theorem collect_gen {Q : List Value → Shared → Prop} (X : Bx w b s) (I : Ready w b a "generator" n d R s) (hn : n ≤ 100000) (hA : AO (d + 1) A) (hRT : ∀ j T v, R j T v → ∀ p ∈ T, p.2.cls ≠ .type "list")
    (hQ : ∀ s' acc F, Bx w b s' → HS F s'.heap → Acc R n F acc → Q acc.toList s') : wpAny (model P0 w) A (collect (.ref a)) Q E s := by
  unfold collect
  have nx : s.heap.get? s.heap.objs.size = none := Heap.get?_none_of_le (Nat.le_refl _)
  refine wpAny_bind (wpAny_runValue (codeAny_mono (R := fun r s' => r = .ok (.ret (.ref s.heap.objs.size)) ∧ ∃ acc k F, Bx w b s' ∧ HS F s'.heap ∧ s'.heap.get? s.heap.objs.size = some (LO (.type "list") none acc k) ∧ Acc R n F acc) ?_ ?_))
  · refine codeAny_builtin PySem.F.entry_proto_collect ?_
    rw [Around.under_plainId PySem.F.plain_proto_collect _]
    show wpAny _ A.in1 (newList [] >>= fun l => again (.builtin "list.__iadd__" ⟨[l, .ref a], []⟩)) _ _ s
    refine wpAny_bind (wpAny_newObj_type ?_)
    refine wpAny_pure ⟨plainId_quiet PySem.F.plain_list_iadd _, codeAny_builtin PySem.F.entry_list_iadd ?_⟩
    rw [Around.under_plainId PySem.F.plain_list_iadd _]
    have gx : (s.heap.push { cls := .type "list", data := .seq ([] : List Value).toArray }).get? s.heap.objs.size = some (LO (.type "list") none #[] 0) := Heap.get?_push_size _ rfl
    show wpAny _ A.in1 (Builtin.List.listExtendWith (.ref s.heap.objs.size) (.ref a) (.ref s.heap.objs.size)) _ _ _
    exact extw (KK := fun _ => True) (fun _ _ _ _ _ _ h => h) (fun _ _ _ h => h) (cl := .type "list") (dc := none) (Rr := fun r s' => r = .ok (.ret (.ref s.heap.objs.size)) ∧ ∃ acc k F, Bx w b s' ∧ HS F s'.heap ∧ s'.heap.get? s.heap.objs.size = some (LO (.type "list") none acc k) ∧ Acc R n F acc) rfl X I hn hA hRT (X.new0 nx) (fun a o e => Heap.get?_push_of_some _ e) (Nat.le_refl _) gx (fun o e => by rw [nx] at e; cases e) trivial fun s' acc k F X' hF hS hacc hFc _ => ⟨rfl, acc, k, F, X', hF, hS, hacc⟩
  · rintro r s' ⟨rfl, acc, k, F, X', hF, hS, hacc⟩
    show wpAny _ A (load s.heap.objs.size >>= _) _ _ s'
    refine wpAny_bind (wpAny_load hS ?_)
    exact wpAny_pure (hQ s' acc F X' hF hacc)

open Builtin.Str in
theorem join_gen {x : Str} {t : Tok} {l : List Str} {Q : Value → Shared → Prop} (X : Bx w b s) (I : Ready w b a "generator" n d R s) (hn : n ≤ 100000) (hA : AO (d + 2) A) (hRT : ∀ j T v, R j T v → ∀ p ∈ T, p.2.cls ≠ .type "list")
    (hl : l.length = n) (hR : ∀ j T v, R j T v → ∃ y u, l[j]? = some y ∧ v = .str y u) (hok : JoinOk x l = true) (hQ : ∀ t' s', Bx w b s' → Q (.str (Txt.join x l) t') s') :
    wpAny (model P0 w) A (call (.builtin "str.join") [.str x t, .ref a]) Q E s := by
  refine wpAny_call (codeAny_call_builtin PySem.F.slot_str_join.plain PySem.F.entry_str_join (PySem.F.slot_str_join.check _ _ _ _ _ _ _ _ (typeIs_str _ _ _) (PySem.F.args_str_join_2 _ _) ?_))
  rw [join_tree_other]
  have I0 := I
  obtain ⟨N, NG, St, I, hst, hN, hNG⟩ := I
  refine wpAny_bind (wpAny_typeOf (I.type 0 s hst) ?_)
  show wpAny _ A.in1 ((pyIter (.ref a)).tryCatch _ >>= fun it => collect it >>= fun items => joinTail x items) _ _ s
  refine wpAny_bind (wpAny_tryCatch (I.self 0 s _ _ _ hst ?_))
  refine wpAny_bind (collect_gen X I0 hn hA.in1 hRT fun s' acc F X' hF hacc => ?_)
  obtain ⟨l', hl'⟩ := exists_strValues acc.toList fun v hv => by
    obtain ⟨j, hj, rfl⟩ := Array.mem_iff_getElem.mp (Array.mem_toList_iff.mp hv)
    obtain ⟨T, _, r⟩ := hacc.2 j _ (Array.getElem?_eq_getElem hj)
    obtain ⟨y, u, _, e⟩ := hR _ _ _ r
    exact ⟨y, u, e⟩
  have hmap : l'.map (·.1) = l := by
    apply List.ext_getElem?
    intro j
    rw [List.getElem?_map]
    cases hj : l'[j]? with
    | none =>
      have h1 : l'.length ≤ j := List.getElem?_eq_none_iff.mp hj
      have h2 := congrArg List.length hl'
      simp only [strValues, List.length_map, Array.length_toList] at h2
      rw [List.getElem?_eq_none (by rw [hl, ← hacc.1, ← h2]; exact h1)]; rfl
    | some p =>
      have h2 : acc[j]? = some (.str p.1 p.2) := by
        rw [← Array.getElem?_toList, ← hl']; simp [strValues, hj]
      obtain ⟨T, _, r⟩ := hacc.2 j _ h2
      obtain ⟨y, u, e1, e2⟩ := hR _ _ _ r
      cases e2
      exact e1.symm
  rw [← hl']
  have hok' := hok
  rw [← hmap] at hok
  unfold JoinOk at hok
  rw [Bool.not_eq_true'] at hok
  have g : Gives (joinTail x (strValues l')) (joinMade x l') := by
    have g0 := gives_joinTail x l' hok
    cases l' with
    | nil => exact g0
    | cons p r => cases r with
      | nil => exact g0
      | cons q r' => exact g0
  exact g P0 w A (wants Q E) s' (post_join l' ⟨joinFit_length hok, fun t' k => by rw [hmap]; exact hQ t' _ (X'.grow (t := k) fun _ _ e => e)⟩)
end
end

section
open Builtin Builtin.ObjectAttr
section
variable {w : World} {A : Around} {E : Value → Shared → Prop} {s s' b : Shared} {n d : Nat} {t : Addr} {ol : Obj} {items : Array Value} {k : Nat}

/-- a list, or a Tags -/
structure SeqO (o : Obj) (items : Array Value) (k : Nat) : Prop where
  cls : o.cls = .ref 335 ∨ o.cls = .type "list"
  data : o.data = .seq items k

theorem SeqO.sub {M : Model} {h : Heap} (x : SeqO ol items k) (K : (KF w).In h) (ht : h.get? t = some ol) : Looks M h (isInstance (.ref t) (.type "list")) true := by
  rcases x.cls with e | e
  · exact (show Looks M h (typeOf (.ref t)) (.ref 335) from e ▸ (Looks.ld ht).andThen .now).andThen (looks_mroIn (M := M) K (by kernel_rfl : mroIn (KF w) 335 (.type "list") = some true))
  · exact (show Looks M h (typeOf (.ref t)) (.type "list") from e ▸ (Looks.ld ht).andThen .now).andThen (Looks.of_pure (by rw [isSubtype_type]; kernel_rfl))

theorem SeqO.find {M : Model} {h : Heap} {name : Str} {f : Value} (x : SeqO ol items k) (K : (KF w).In h) (ht : h.get? t = some ol) (e1 : findIn (KF w) (.ref 335) name = some (some f)) (e2 : typeLookup (.type "list") name = pure (some f)) :
    Looks M h (specialOf (.ref t) name) (some f) := by
  rcases x.cls with e | e
  · exact (show Looks M h (typeOf (.ref t)) (.ref 335) from e ▸ (Looks.ld ht).andThen .now).andThen (looks_findIn K e1)
  · exact (show Looks M h (typeOf (.ref t)) (.type "list") from e ▸ (Looks.ld ht).andThen .now).andThen (Looks.of_pure e2)

theorem iter_T0 {prog : Program} {w' : World} {Q : Value → Shared → Prop} (ok : Ok w s.heap) (ht : s.heap.get? t = some ol) (hs : SeqO ol items k)
    (h : Q (.ref s.heap.objs.size) { s with heap := s.heap.push { cls := .type "list_iterator", data := .fields #[.ref t, .int 0 0] } }) : wpAny (model prog w') A (pyIter (.ref t)) Q E s := by
  obtain ⟨hh, g, dr, tk, os⟩ := s
  have L1 := hs.find (M := model prog w') ok.K ht (name := "__iter__") (f := .builtin "list.__iter__") (by kernel_rfl) slot_list_iter.lookup
  have L2 := hs.sub (M := model prog w') ok.K ht
  unfold pyIter
  refine wpAny_bind (L1.at ?_)
  show wpAny _ A (callSpecialIfBoundUnlessNone? (.ref t) "__iter__" _ >>= _) _ _ _
  unfold callSpecialIfBoundUnlessNone? bindSpecialIfBound?
  repeat lk
  simp only [slot_list_iter.bind, pure_bind]
  have fin : ∀ (A' : Around), wpAny (model prog w') A' (call (.builtin "list.__iter__") [.ref t]) (fun it s' => it = .ref hh.objs.size ∧ s' = ⟨hh.push { cls := .type "list_iterator", data := .fields #[.ref t, .int 0 0] }, g, dr, tk, os⟩) (fun _ _ => False) ⟨hh, g, dr, tk, os⟩ := by
    intro A'
    refine wpAny_call (codeAny_call_builtin slot_list_iter.plain entry_list_iter ?_)
    refine check_slot (i := "list.__iter__") (owner := "list") (n := "__iter__") (self := .ref t) (rest := []) (kw := []) (by decide +kernel) (by decide +kernel) L2 (args_list_iter _) ?_
    show wpAny _ _ (do ret (← newFields "list_iterator" [.ref t, rawInt 0])) _ _ _
    exact wpAny_bind (wpAny_newObj_type (wpAny_pure ⟨rfl, rfl⟩))
  have hn : ∀ (A' : Around) (Q' : Option Value → Shared → Prop), Q' (some (.builtin "list_iterator.__next__")) ⟨hh.push { cls := .type "list_iterator", data := .fields #[.ref t, .int 0 0] }, g, dr, tk, os⟩ → wpAny (model prog w') A' (specialOf (.ref hh.objs.size) "__next__") Q' E ⟨hh.push { cls := .type "list_iterator", data := .fields #[.ref t, .int 0 0] }, g, dr, tk, os⟩ := by
    intro A' Q' q
    exact wpAny_specialOf (T := "list_iterator") ⟨_, Heap.get?_push_size _ rfl, rfl⟩ slot_listiter_next.lookup q
  split
  · refine wpAny_pure ?_
    show wpAny _ A (call (.builtin "list.__iter__") [.ref t] >>= _) _ _ _
    refine wpAny_bind (wpAny_mono (fin _) ?_ fun _ _ e => e.elim)
    rintro _ _ ⟨rfl, rfl⟩
    exact wpAny_pure (wpAny_bind (hn _ _ (wpAny_pure h)))
  · refine wpAny_pure ?_
    show wpAny _ A (call (.builtin "list.__iter__") [.ref t] >>= _) _ _ _
    refine wpAny_bind (wpAny_mono (fin _) ?_ fun _ _ e => e.elim)
    rintro _ _ ⟨rfl, rfl⟩
    exact wpAny_pure (wpAny_bind (hn _ _ (wpAny_pure h)))

theorem Ready.list (ok : Ok w s.heap) (ht : s.heap.get? t = some ol) (hd : ol.data = .seq items k) (n4 : t ∉ T4) (hdd : d ≤ 122) :
    Ready w s s.heap.objs.size "list_iterator" items.size d (fun i T v => T = [] ∧ items[i]? = some v) { s with heap := s.heap.push { cls := .type "list_iterator", data := .fields #[.ref t, .int 0 0] } } := by
  have hlt := Heap.lt_size ht
  have nx : s.heap.get? s.heap.objs.size = none := Heap.get?_none_of_le (Nat.le_refl _)
  refine ⟨s.heap.objs.size + 1, s.gens.size, _, Itr.list nx (Nat.lt_succ_self _) (Nat.lt_succ_of_lt hlt) hdd (Nat.ne_of_lt hlt), ⟨⟨_, Heap.get?_push_size _ rfl, rfl, rfl⟩, ok.fresh nx, n4, ol, k, Heap.get?_push_of_some _ ht, hd⟩, ?_, Nat.le_refl _⟩
  rw [Heap.size_push]; exact Nat.le_refl _
end
end

section
abbrev mttD : Stmt := topS 13
theorem fnMtt (w : World) : ∃ oc od fd sl, (KF w).lookup 355 = some ⟨oc, od, .func fd, sl⟩ ∧ FnOk w fd (bodyOf mttD) (namesOf mttD) false ∧ fd.closure = [] ∧ fd.code = .ref 354 ∧ (∀ a b S, peek (KF w) S (bindArgs fd ⟨[a, b], []⟩) = some [((("tags" : Str)), a), ((("line_ending" : Str)), b)]) ∧
    ∀ a S, peek (KF w) S (bindArgs fd ⟨[a], []⟩) = some [((("tags" : Str)), a), ((("line_ending" : Str)), .str "^J" 640)] :=
  ⟨_, _, _, _, rfl, ⟨by kernel_rfl, by kernel_rfl, by kernel_rfl, by kernel_rfl, by kernel_rfl, by kernel_rfl, by kernel_rfl, by kernel_rfl⟩, by kernel_rfl, by kernel_rfl, fun a b S => by kernel_rfl, fun a S => by kernel_rfl⟩

section
variable {w : World} {A : Around} {E : Value → Shared → Prop} {s s' b : Shared} {env cenv : Env} {m cm : Str → Option Value} {S : List (Addr × Obj)}

/-- a method of str, one argument -/
theorem m_str1 {o e : Expr} {name : Str} {id : String} {apos pos : Pos} {Q : Value → Shared → Prop} (slot : Slot "str" name id) (ty : typeOf (.builtin id) = pure (.type "method_descriptor"))
    (hbase : attributeBase o name env (eval o env) = eval o env) (hs : starEach [e] env = [(false, eval e env)]) (hline : (apos.endLine == pos.line) = true)
    (h : wpAny (model P0 w) A (eval o env) (fun ov s₁ => ∃ x t, ov = .str x t ∧ wpAny (model P0 w) A (eval e env) (fun v s₂ => wpAny (model P0 w) A (call (.builtin id) [.str x t, v]) Q E s₂) E s₁) E s) :
    wpAny (model P0 w) A (eval (.Call (.Attribute o name apos) [e] [] pos) env) Q E s := by
  refine Call_method1 hbase hs hline (wpAny_mono h (fun ov s₁ h₁ => ?_) fun _ _ e => e)
  obtain ⟨x, t, rfl, h₁⟩ := h₁
  refine ⟨"str", id, PySem.F.plainAttrs_str, slot, ty, typeIs_str _ _ _, (fun _ e => nomatch e), ?_⟩
  have h2 := PyProof.Rows.callWith_method1 (M := model P0 w) (A := A) (E := E) (s := s₁) (pos := pos) (Q := Q) (id := id) (first := [.str x t]) (env := env) (e := e) (rest := []) (spliced_more (he := hs) (wpAny_mono h₁ (fun v s₂ h₂ => spliced_none h₂) fun _ _ e => e)) hs
  rw [hs] at h2
  exact h2
theorem m_str2 {o e₁ e₂ : Expr} {name : Str} {id : String} {apos pos : Pos} {Q : Value → Shared → Prop} (slot : Slot "str" name id) (ty : typeOf (.builtin id) = pure (.type "method_descriptor"))
    (hbase : attributeBase o name env (eval o env) = eval o env) (hs : starEach [e₁, e₂] env = [(false, eval e₁ env), (false, eval e₂ env)]) (hs2 : starEach [e₂] env = [(false, eval e₂ env)]) (hline : (apos.endLine == pos.line) = true)
    (h : wpAny (model P0 w) A (eval o env) (fun ov s₁ => ∃ x t, ov = .str x t ∧ wpAny (model P0 w) A (eval e₁ env) (fun v₁ s₂ => wpAny (model P0 w) A (eval e₂ env) (fun v₂ s₃ => wpAny (model P0 w) A (call (.builtin id) [.str x t, v₁, v₂]) Q E s₃) E s₂) E s₁) E s) :
    wpAny (model P0 w) A (eval (.Call (.Attribute o name apos) [e₁, e₂] [] pos) env) Q E s := by
  refine Call_method2 hbase hs hline (wpAny_mono h (fun ov s₁ h₁ => ?_) fun _ _ e => e)
  obtain ⟨x, t, rfl, h₁⟩ := h₁
  refine ⟨"str", id, PySem.F.plainAttrs_str, slot, ty, typeIs_str _ _ _, (fun _ e => nomatch e), ?_⟩
  have h2 := PyProof.Rows.callWith_method1 (M := model P0 w) (A := A) (E := E) (s := s₁) (pos := pos) (Q := Q) (id := id) (first := [.str x t]) (env := env) (e := e₁) (rest := [e₂])
    (spliced_more (he := by rw [hs, hs2]) (wpAny_mono h₁ (fun v s₂ h₂ => spliced_more (he := hs2) (wpAny_mono h₂ (fun v₂ s₃ h₃ => spliced_none h₃) fun _ _ e => e)) fun _ _ e => e)) (by rw [hs, hs2]) (by rw [hs2]; rfl)
  rw [hs] at h2
  exact h2


/-- the walk's name stored -/
theorem asg_name {x : Str} {px : Pos} {I : Addr} {v : Value} (hx : cenv.kindOf x = some .local) (hk : cenv.scope.kind = .function) (X : Fx w b cenv ⟨.of false, []⟩ m cm S s) :
    wpAny (model P0 w) A (letOwnedTupleGo (.Name x px) (.ref I) v) (fun _ s₁ => wpAny (model P0 w) A (assign (.Name x px) cenv v) (fun _ s' => ∃ m'',
      Fx w b cenv ⟨.of false, []⟩ m'' cm S s' ∧ m'' x = some v ∧ (∀ a o, a ≠ cenv.locals → s.heap.get? a = some o → s'.heap.get? a = some o) ∧ s'.gens = s.gens) (fun _ _ => False) s₁) (fun _ _ => False) s := by
  refine wpAny_of_eq (rfl : letOwnedTupleGo (.Name x px) (.ref I) v = pure ()) ?_
  refine wpAny_assign_Name (wpAny_storeName_local hx X.ns (fun h' hn hs => ?_) (by rw [hk]; rfl))
  exact ⟨_, X.storeL (t := _) hn hs, if_pos rfl, fun a o n e => hs.extBut a o n e, rfl⟩

def TS (S : List (Addr × Obj)) (t : Addr) (l : List (Value × Value)) : Prop := ∃ ol, ∃ items : Array Value, ∃ k, (t, ol) ∈ S ∧ SeqO ol items k ∧ items.size = l.length ∧ ∀ (j : Nat) (r : Value), items[j]? = some r → ∃ c v, IsTag S r c v ∧ (l[j]? : Option (Value × Value)) = some (c, v)

set_option maxHeartbeats 1000000 in
theorem mtt_body {texts : List (Value × Str)} {t : Addr} {le : Str} {tk : Tok} {B : List (Addr × Obj)} {d : Nat} {binds : List (Str × Value)} {pos : List Value} {fd : FuncData} {oc od sl} (ok : Ok w s.heap) (hB : HS B s.heap) (hA : AO (d + 20) A) (hd : d ≤ 80)
    (hlook : (KF w).lookup 355 = some ⟨oc, od, .func fd, sl⟩) (F : FnOk w fd (bodyOf mttD) (namesOf mttD) false) (hclo : fd.closure = []) (hcd : fd.code = .ref 354) (hbind : BindsTo s fd ⟨pos, []⟩ [((("tags" : Str)), .ref t), ((("line_ending" : Str)), .str le tk)])
    (hT : ∃ us : List Tok, us.length = texts.length ∧ TS B t ((texts.zip us).map fun p => (p.1.1, .str p.1.2 p.2))) (hn : texts.length ≤ 100000) (hsz : ((texts.map (·.2)).map (·.length)).sum ≤ 100000) (htk0 : tk ≠ 0) (htk : tk < s.toks) (hle : (le == (Str.ofString "\n")) = false) :
    wpAny (model P0 w) A (call (.ref 355) pos) (Ret w s (fun _ v => ∃ t', v = .str (Txt.replace (Txt.join (Str.ofString "") (texts.map (·.2))) le (Str.ofString "\n")) t')) E s := by
  refine callFT ok hB (d := d + 19) hA hlook F hclo hbind (by rfl) ?_
  intro env s₁ L m cm I hc hcode hq hA' hm hcm X htk₁
  have hm1 := (hm "tags" (by rfl)).trans (show _ = some (Value.ref t) from rfl)
  have hm2 := (hm "line_ending" (by rfl)).trans (show _ = some (Value.str le tk) from rfl)
  obtain ⟨us, hus, ol, items, k, hol, hseq, hsize, hitems⟩ := hT
  have hlen : items.size = texts.length := by rw [hsize, List.length_map, List.length_zip, hus, Nat.min_self]
  walk_at "m1"
  walk_at "m1"
  refine m_str2 PySem.F.slot_str_replace PySem.F.type_str_replace (by rfl) (by rfl) (by rfl) (by rfl) ?_
  refine wpAny_with_toks htk₁ ?_
  refine m_str1 PySem.F.slot_str_join PySem.F.type_str_join (by rfl) (by rfl) (by rfl) ?_
  walk_at "m1"
  rename_i t₂ s₂ X₂
  refine ⟨_, _, rfl, ?_⟩
  refine gx_eval (cl := []) (c := 354) (P := 350) (by rfl) (hcode.trans hcd) (by decide) (fun e => absurd e (by decide)) I.glob hA'.room (by rfl) (by decide) (by rfl) (by rfl) (by intro _; rfl) ?_
  walk_at "m1"
  obtain ⟨hol', hol4, _⟩ := X₂.has _ hol
  refine iter_T0 X₂.ok hol' hseq ?_
  have X₃ : Bx w s₂ { s₂ with heap := s₂.heap.push { cls := .type "list_iterator", data := .fields #[.ref t, .int 0 0] } } := (Bx.self X₂.ok).grow (t := s₂.toks) fun _ _ e => Heap.get?_push_of_some _ e
  refine ⟨s₂, _, _, items.size, d + 4, (fun i T v => T = [] ∧ items[i]? = some v), (fun i T v => T = [] ∧ ∃ y u, (texts.map (·.2))[i]? = some y ∧ v = .str y u), (fun _ => none), B, (fun i T v m => m "tag" = some v), rfl,
    X₃, Ready.list X₂.ok hol' hseq.data hol4 (by omega), by omega, (fun n c e => by cases e), (fun p h => by cases h), .nil, X₂.has, ?_, ?_, ?_⟩
  · intro cenv Ic hcl hsc St₁ hSt A i v T s m' hA _ _ _ X
    exact asg_name (Ic.kindOf (by rfl)) Ic.kind X
  · intro cenv Ic hcl hsc A i v T s m' hA hR hT hB X
    refine Attribute_name ?_
    refine nm_local Ic X (by rfl) (by decide) hB ?_
    obtain ⟨c, v', hI, hl⟩ := hitems i v hR.2
    rw [List.getElem?_map] at hl
    cases hz : (texts.zip us)[i]? with
    | none => rw [hz] at hl; cases hl
    | some p =>
      rw [hz] at hl
      cases hl
      refine tag_value0 (d := d + 1) X.ok X.has hI hA rfl fun s' r => ⟨r.ok, r.kt, r.os, r.ge, [], HS.nil, rfl, _, _, ?_, rfl⟩
      rw [List.getElem?_map]
      rw [List.getElem?_zip_eq_some] at hz
      rw [hz.1]; rfl
  · intro a s₄ hr hb
    refine join_gen hb hr (by omega) (hA'.le (by omega)) (fun j T v h p hp => by rw [h.1] at hp; cases hp) (l := texts.map (·.2)) (by rw [List.length_map, hlen]) (fun j T v h => h.2) ?_ ?_
    · unfold JoinOk Builtin.Str.tooLong
      rw [StrLaws.joinTotal, Bool.not_eq_true', decide_eq_false_iff_not]
      have e0 : (Str.ofString "").length = 0 := rfl
      rw [e0]
      simp only [Nat.mul_zero, Nat.add_zero, sizeLine_eq] at hsz ⊢
      omega
    · intro t' s₅ hb5 htk₅
      have X₅ := X₂.step hb5.ok hb5.kt hb5.os hb5.ge
      refine ⟨_, _, rfl, ?_⟩
      walk_at "m1"
      refine wpAny_Constant_str ?_
      refine SC.replaceW htk0 (Nat.ne_of_gt (Nat.lt_of_lt_of_le (Nat.lt_of_le_of_lt (Nat.zero_le _) htk) htk₅)) (Nat.ne_of_lt (Nat.lt_of_lt_of_le htk htk₅)) hle ?_ (by decide) ?_
      · have h1 := StrLaws.join_length_le (Str.ofString "") (texts.map (·.2))
        have e0 : (Str.ofString "").length = 0 := rfl
        rw [e0, Nat.mul_zero, Nat.add_zero] at h1
        show (Builtin.Str.glued (Str.ofString "") (texts.map (·.2))).length ≤ _
        rw [StrLaws.glued_eq_join]
        omega
      · intro t₆ k
        dsimp only
        exact Fx.ret (X₅.tok k) ⟨t₆, rfl⟩
end
end

section
abbrev ttmD : Stmt := topS 12
abbrev chopD : Stmt := (bodyOf ttmD).getD 1 (.Pass default)
abbrev chopN : List (Str × NameKind) := namesOf chopD

theorem GS.fxSeg {w : World} {b s s₀ : Shared} {cenv : Env} {m cm : Str → Option Value} {S : List (Addr × Obj)} {N g : Nat} (G : GS w b cenv cm S) (X : Bx w b s) (n : s.heap.Ns cenv.locals m) (h1 : cenv.locals < N) (h2 : s.gens[g]? = some .running) (h3 : Mv N (g + 1) s₀ s) :
    Fx w b cenv ⟨.seg s₀ N g, []⟩ m cm S s := { G.fx X n with own := fun h => (nomatch h), sg := ⟨h1, h2, h3⟩ }

def chunkN (len sz : Nat) : Nat := (len + sz - 1) / sz
def chopR (text : Str) (sz : Nat) : Nat → List (Addr × Obj) → Value → Prop := fun i T v => i < chunkN text.length sz ∧ T = [] ∧ ∃ u, v = .str (Txt.slice text (some ((i * sz : Nat) : Int)) (some (((i + 1) * sz : Nat) : Int))) u

theorem chunkN_le {len sz : Nat} (h : 0 < sz) : chunkN len sz ≤ len := by
  unfold chunkN
  have h1 : (len + sz - 1) / sz < len + 1 := by
    rw [Nat.div_lt_iff_lt_mul h]
    have : len * 1 ≤ len * sz := Nat.mul_le_mul_left _ h
    rw [Nat.add_mul]; omega
  omega
theorem chunk_lt {len sz i : Nat} (h : 0 < sz) : i < chunkN len sz ↔ i * sz < len := by
  unfold chunkN
  rw [Nat.lt_div_iff_mul_lt h]
  omega

section
variable {w : World} {A : Around} {s₀ s s' b : Shared} {genv : Env} {m cm : Str → Option Value} {S : List (Addr × Obj)} {v : Value} {N g : Nat}


abbrev chopW : Stmt := (bodyOf chopD).getD 2 (.Pass default)
def whTest (s : Stmt) : Expr := match s with | .While t _ _ _ => t | _ => .Name "" default
def whBody (s : Stmt) : List Stmt := match s with | .While _ b _ _ => b | _ => []

theorem seg_chopLoop {text : Str} {tt ts : Tok} {sz d : Nat} {c1 c2 : Addr} {A0 : Around} {fs : List Frame} (G : GS w b genv cm []) (hC2 : genv.locals < N) (Ic : EnvIs genv chopN) (hco : genv.scope.isCoroutine = false) (hin : interactive genv = false)
    (hc1 : genv.cells.lookup ("text" : Str) = some c1) (hc2 : genv.cells.lookup ("size" : Str) = some c2) (hv1 : cm "text" = some (.str text tt)) (hv2 : cm "size" = some (.int sz ts)) (hsz : 0 < sz) (hsz2 : sz ≤ 1000) (htl : text.length ≤ 100000)
    (hfs : splitAtGen fs = none) (hfg : fs.any Frame.guarded = false) (hA : AO d (A0.over (.whileLoop (whTest chopW) (whBody chopW) [] genv) fs))
    (hend : ∀ s₀ s', Bx w b s' → Mv N (g + 1) s₀ s' → s'.gens[g]? = some .running → Seg (model P0 w) A0 (gxEnd w b N g (.ret .none)) (gxY w b N g (chunkN text.length sz) (chopR text sz)) 0 s₀ (.whileLoop (whTest chopW) (whBody chopW) [] genv) (.pure (.done .next)) fs s') :
    ∀ (k i : Nat) (s₀ s : Shared) (m : Str → Option Value) (t1 t2 : Tok), chunkN text.length sz - i = k → i ≤ chunkN text.length sz → Bx w b s → s.heap.Ns genv.locals m → m "start" = some (.int ((i * sz : Nat) : Int) t1) → m "end" = some (.int (((i + 1) * sz : Nat) : Int) t2) → s.gens[g]? = some .running → Mv N (g + 1) s₀ s →
      Seg (model P0 w) A0 (gxEnd w b N g (.ret .none)) (gxY w b N g (chunkN text.length sz) (chopR text sz)) (chunkN text.length sz - i) s₀ (.whileLoop (whTest chopW) (whBody chopW) [] genv) ((model P0 w).den (.whileLoop (whTest chopW) (whBody chopW) [] genv)) fs s := by
  intro k
  induction k with
  | zero =>
    intro i s₀ s m t1 t2 hk hi X hn hm1 hm2 hr hmv
    have hin' : i = chunkN text.length sz := by omega
    have hnl : ¬ i * sz < text.length := fun q => by have := (chunk_lt hsz).mpr q; omega
    have X₀ := G.fxSeg X hn hC2 hr hmv
    refine seg_whileLoop ?_
    refine wpAny_isTrue_Compare1 ?_
    repeat (walk_at "m1")
    rename_i t' s' X'
    rw [if_neg (by rw [decide_eq_true_eq]; omega), show chunkN text.length sz - i = 0 by omega]
    exact seg_execs_nil (hend s₀ s' X'.bx X'.sg.2.2 X'.sg.2.1)
  | succ k ih =>
    intro i s₀ s m t1 t2 hk hi X hn hm1 hm2 hr hmv
    have hlt : i * sz < text.length := (chunk_lt hsz).mp (by omega)
    have X₀ := G.fxSeg X hn hC2 hr hmv
    refine seg_whileLoop ?_
    refine wpAny_isTrue_Compare1 ?_
    repeat (walk_at "m1")
    rename_i t' s' X'
    rw [if_pos (by rw [decide_eq_true_eq]; omega), show chunkN text.length sz - i = k + 1 by omega]
    refine seg_execs_cons (seg_Expr_Yield hfs rfl hfg ?_ hco hin)
    repeat (walk_at "m1")
    refine ⟨_, _, _, _, _, _, _, _, _, rfl, rfl, rfl, by rw [sizeLine_eq]; omega, X', fun t'' s₂ X₂ => ?_⟩
    intro kap hkap
    refine ⟨⟨[], i, by omega, HS.nil, by omega, rfl, _, rfl⟩, X₂.bx, X₂.sg.2.2, X₂.sg.2.1, fun s₃ fr hX hr₃ => hkap .none s₃ ?_⟩
    have hn₃ : s₃.heap.Ns genv.locals m := by
      obtain ⟨o, es, ep, e, r⟩ := X₂.ns
      exact ⟨o, es, ep, fr.heap _ _ hC2 X₂.n4 e, r⟩
    have X₃ := G.fxSeg hX hn₃ hC2 hr₃ (Mv.refl s₃)
    show Seg _ _ _ _ _ _ _ ((execs _ genv).wrap _ _ _ _) _ _
    refine seg_execs_cons (seg_wrap ?_)
    repeat (walk_at "m1")
    show Seg _ _ _ _ _ _ _ ((execs _ genv).wrap _ _ _ _) _ _
    refine seg_execs_cons (seg_wrap ?_)
    repeat (walk_at "m1")
    rename_i s₄ X₄
    refine seg_execs_nil ?_
    have e1 : chunkN text.length sz - (i + 1) = k := by omega
    have e2 : ((((i + 1) * sz : Nat) : Int) + (sz : Int)) = (((i + 1 + 1) * sz : Nat) : Int) := by
      rw [show (i + 1 + 1) * sz = (i + 1) * sz + sz from by rw [Nat.add_mul (i + 1) 1, Nat.one_mul]]
      exact (Int.natCast_add _ _).symm
    rw [e2] at X₄
    have h1 := ih (i + 1) s₃ s₄ _ _ _ e1 (by omega) X₄.bx X₄.ns (by walk_at "m.look") (by walk_at "m.look") X₄.sg.2.1 X₄.sg.2.2
    rw [e1] at h1
    exact seg_again rfl h1

theorem seg_chop {text : Str} {tt ts : Tok} {sz d : Nat} {c1 c2 : Addr} (hd : d + 10 ≤ 122) (G : GS w b genv cm []) (hC2 : genv.locals < N) (Ic : EnvIs genv chopN) (hco : genv.scope.isCoroutine = false) (hin : interactive genv = false)
    (hc1 : genv.cells.lookup ("text" : Str) = some c1) (hc2 : genv.cells.lookup ("size" : Str) = some c2) (hv1 : cm "text" = some (.str text tt)) (hv2 : cm "size" = some (.int sz ts)) (hsz : 0 < sz) (hsz2 : sz ≤ 1000) (htl : text.length ≤ 100000)
    (s : Shared) (m : Str → Option Value) (X : Bx w b s) (hn : s.heap.Ns genv.locals m) (hr : s.gens[g]? = some .running) :
    Seg (model P0 w) (Amax (d + 10)).in1 (gxEnd w b N g (.ret .none)) (gxY w b N g (chunkN text.length sz) (chopR text sz)) (chunkN text.length sz - 0) s (.func (bodyOf chopD) genv) ((model P0 w).den (.func (bodyOf chopD) genv)) [] s := by
  refine seg_func ?_
  have X₀ := G.fxSeg X hn hC2 hr (Mv.refl s)
  refine seg_execs_cons (seg_wrap ?_)
  repeat (walk_at "m1")
  show Seg _ _ _ _ _ _ _ ((execs _ genv).wrap _ _ _ _) _ _
  refine seg_execs_cons (seg_wrap ?_)
  repeat (walk_at "m1")
  rename_i t₁ sa Xa sb Xb s₂ X₂
  show Seg _ _ _ _ _ _ _ ((execs _ genv).wrap _ _ _ _) _ _
  refine seg_execs_cons (seg_While fun p => ?_)
  refine seg_chopLoop (A0 := (Amax (d + 10)).in1) (d := d) (t1 := t₁) (t2 := ts) G hC2 Ic hco hin hc1 hc2 hv1 hv2 hsz hsz2 htl (by rfl) (by rfl) ?_ ?_ _ 0 s s₂ _ rfl (Nat.zero_le _) X₂.bx X₂.ns (by rw [Nat.zero_mul]; walk_at "m.look") (by rw [Nat.zero_add, Nat.one_mul]; walk_at "m.look") X₂.sg.2.1 X₂.sg.2.2
  · refine ⟨rfl, ?_, ?_⟩
    · show 900 - (d + 10) + 1 + 0 + d ≤ 900
      omega
    · show 9800 - 80 * (d + 10) + 1 + 3 + 0 + 80 * d ≤ 9800
      omega
  · intro s₃ s₄ X₄ M₄ hr₄
    refine seg_leaf (.ok .next) ?_
    exact seg_end (.ok (.ret .none)) ⟨rfl, rfl, X₄, M₄, hr₄⟩
end
end

section
theorem fnTtm (w : World) : ∃ oc od fd sl, (KF w).lookup 347 = some ⟨oc, od, .func fd, sl⟩ ∧ FnOk w fd (bodyOf ttmD) (namesOf ttmD) false ∧ fd.closure = [] ∧ fd.code = .ref 346 ∧ fd.qualname = "text_to_multi_tags" ∧
    (∀ a b c d S, peek (KF w) S (bindArgs fd ⟨[a, b, c, d], []⟩) = some [(("text" : Str), a), (("code" : Str), b), (("size" : Str), c), (("line_ending" : Str), d)]) ∧
    ∀ a S, peek (KF w) S (bindArgs fd ⟨[a], []⟩) = some [(("text" : Str), a), (("code" : Str), .int 303 623), (("size" : Str), .int 255 624), (("line_ending" : Str), .str "^J" 625)] :=
  ⟨_, _, _, _, rfl, ⟨by kernel_rfl, by kernel_rfl, by kernel_rfl, by kernel_rfl, by kernel_rfl, by kernel_rfl, by kernel_rfl, by kernel_rfl⟩, by kernel_rfl, by kernel_rfl, by kernel_rfl, fun a b c d S => by kernel_rfl, fun a S => by kernel_rfl⟩

section
variable {w : World} {A : Around} {E : Value → Shared → Prop} {s₀ s s' b : Shared} {env cenv : Env} {m cm : Str → Option Value} {S : List (Addr × Obj)} {v : Value}

theorem def_chop {params : Arguments} {body : List Stmt} {scope : Scope} {clos : List (Str × Addr)} {fl : Nat} {Q : Value → Shared → Prop} (X : Fx w s₀ env ⟨.of true, []⟩ m cm S s) (hge : env.globals = mainGlobals) (hcode : env.code = .ref 346) (hcl : closureFor scope env = pure clos) (hce : ∀ q ∈ env.cells, ∃ n, env.cells.lookup n = some q.2)
    (h : ∀ (a c' : Addr) (oc : Obj) (vs : Array Value) (tq : Tok) (doc pm ctv : Value) (s' : Shared), oc.data = .fields vs → vs[1]? = some (.str chopQual tq) →
      Fx w s₀ env ⟨.of true, [(c', oc)]⟩ m cm ((a, { cls := .type "function", data := .func (fnX "chop" chopQual params body scope clos .none .none doc pm none (.ref c') ctv) }) :: S) s' → Q (.ref a) s') :
    wpAny (model P0 w) A (makeFunction "chop" chopQual params (.stmts body) scope env [] [] [] chopPos fl) Q E s := by
  obtain ⟨ps, hI, hT, hch⟩ := (X.ok.tb (346, 342) (by decide)).go
  obtain ⟨mg, hg⟩ := X.ok.g
  obtain ⟨bm, ob, h1, h2, h3, h4, h5, h6, h7, h8⟩ := X.ok.bm
  have hb : s.heap.BuiltinsAt mg 342 := ⟨bm, ob, mg_of X.ok.K hg h8, h1, h2, fun q => h3 (q ▸ by decide), h4, h5, h6, h7⟩
  have C := CodeHd.of hI hT
  have htr : TriplesOk ps.toList := by obtain ⟨_, _, _, _, _, _, _, _, _, _, _, _, _, _, _, _, _, _, _, htr, _⟩ := hI; exact htr
  have fin : ∀ (s₁ : Shared) (c' : Addr) (t : Nat) (doc ctv : Value), Fx w s₀ env ⟨.of true, []⟩ m cm S s₁ → s₁.heap.CodeRec (.ref c') chopQual → c' ∉ T4 →
      Q (.ref s₁.heap.objs.size) { s₁ with heap := s₁.heap.push { cls := .type "function", data := .func (fnX "chop" chopQual params body scope clos .none .none doc ((mg "__name__").getD .none) none (.ref c') ctv) }, toks := t } := by
    intro s₁ c' t doc ctv Y hr n4
    obtain ⟨cc, oc, vs, tq, e1, e2, e3, e4⟩ := hr
    cases e1
    have Y2 := Y.push { cls := .type "function", data := .func (fnX "chop" chopQual params body scope clos .none .none doc ((mg "__name__").getD .none) none (.ref c') ctv) } t
    refine h _ c' oc vs tq doc _ ctv _ e3 e4 (Y2.addD (D' := [(c', oc)]) fun p hp => ?_)
    rw [List.mem_singleton.mp hp]
    refine ⟨Heap.get?_push_of_some _ e2, n4, fun q => ?_, fun q hq e => ?_⟩
    · obtain ⟨oL, es, ep, eL, dL, _⟩ := id Y.ns
      rw [← q, e2] at eL; cases eL; rw [e3] at dL; cases dL
    · obtain ⟨n, hn⟩ := hce q hq
      obtain ⟨o', f1, f2⟩ := Y.cell n q.2 hn
      rw [show q.2 = c' from e, e2] at f1; cases f1; rw [e3] at f2; cases f2
  cases hf : codeAmong chopPos ps.toList with
  | some cv =>
    obtain ⟨c', rfl, n4, hr⟩ := hch cv hf rfl
    refine makeFunction_hit hcl hge hg hcode C hT.2 htr hf hb fun ctv doc h' tk hk hz => ?_
    exact fin { s with heap := h' } c' tk doc ctv (X.grow (t := s.toks) hk) (hr.keeps hk) n4
  | none =>
    refine makeFunction_K hcl hge hg hcode C hT.2 htr hf (by decide) hb fun c' ctv doc h' tk hx hge' hlt hrec hP' => ?_
    have C' : CodeHd h' 346 342 := by
      obtain ⟨o, vs, file, tf, flags, tg, inF, text, tt, e, r⟩ := C
      exact ⟨o, vs, file, tf, flags, tg, inF, text, tt, hx _ _ (by decide) e, r⟩
    have htr' : TriplesOk (ps ++ #[rawInt chopPos.line, rawInt chopPos.col, Value.ref c']).toList := by
      have hl : (ps ++ #[rawInt chopPos.line, rawInt chopPos.col, Value.ref c']).toList = ps.toList ++ [rawInt chopPos.line, rawInt chopPos.col, .ref c'] := by simp
      rw [hl]; exact TriplesOk_snoc _ _ _ _ htr
    have n4 : c' ∉ T4 := X.ok.fresh (Heap.get?_none_of_le hge')
    obtain ⟨ok', kt'⟩ := X.ok.table (c := 346) (P := 342) (by decide) hx (C'.code hP' htr') (C'.tab hP') fun cv e1 e2 => by
      have hl : (ps ++ #[rawInt chopPos.line, rawInt chopPos.col, Value.ref c']).toList = ps.toList ++ [rawInt chopPos.line, rawInt chopPos.col, .ref c'] := by simp
      rw [hl, codeAmong_snoc _ htr hf] at e1
      cases e1
      exact ⟨c', rfl, n4, hrec⟩
    exact fin { s with heap := h' } c' tk doc ctv (X.step (s' := { s with heap := h' }) ok' kt' rfl (GE.refl _)) hrec n4
end
end

section
def argsOf (s : Stmt) : Arguments := match s with
  | .FunctionDef _ a _ _ _ _ _ _ _ _ => a
  | _ => ⟨[], [], none, [], [], none, []⟩
def scopeOf (s : Stmt) : Scope := match s with
  | .FunctionDef _ _ _ _ _ _ sc _ _ _ => sc
  | _ => P0.main.scope

abbrev chopFd (clos : List (Str × Addr)) (doc pm ctv : Value) (c' : Addr) : FuncData := fnX "chop" chopQual (argsOf chopD) (bodyOf chopD) (scopeOf chopD) clos .none .none doc pm none (.ref c') ctv
section
variable {w : World} {A : Around} {E : Value → Shared → Prop} {s₀ s s' b : Shared} {env cenv : Env} {m cm : Str → Option Value} {S : List (Addr × Obj)} {v : Value}

theorem call_chop {a c' c1 c2 : Addr} {clos : List (Str × Addr)} {doc pm ctv : Value} {text : Str} {tt ts : Tok} {sz d : Nat} {Q : Value → Shared → Prop} (X : Bx w b s) (hA : AO (d + 12) A) (hd : d + 10 ≤ 122) (ho : s.heap.get? a = some { cls := .type "function", data := .func (chopFd clos doc pm ctv c') })
    (hcd : s.heap.CodeRec (.ref c') chopQual) (hc1 : clos.lookup ("text" : Str) = some c1) (hc2 : clos.lookup ("size" : Str) = some c2) (hcell : ∀ n c, clos.lookup n = some c → b.heap.IsCell c (cm n)) (hcn : ∀ p ∈ clos, p.2 ∉ T4) (hap : clos.Pairwise fun x y => x.2 ≠ y.2)
    (hv1 : cm "text" = some (.str text tt)) (hv2 : cm "size" = some (.int sz ts)) (hsz : 0 < sz) (hsz2 : sz ≤ 1000) (htl : text.length ≤ 100000)
    (h : ∀ g s', Ready w b g "generator" (chunkN text.length sz) (d + 10) (chopR text sz) s' → Bx w b s' → Q (.ref g) s') :
    wpAny (model P0 w) A (call (.ref a) []) Q E s := by
  refine wpAny_call (codeAny_call_generator hA.room ho rfl (by rfl) (by rfl) rfl hcd ?_)
  have hb : bindArgs (chopFd clos doc pm ctv c') ⟨[], []⟩ = (pure [] : Sem (List (Str × Value))) := by kernel_rfl
  refine wpAny_of_eq hb ?_
  refine wpAny_newFunctionEnv (by show ∀ x ∈ (scopeOf chopD).names, x.2 ≠ .cell; decide) (fun y h => by cases h) (fun h' hn' hs' => ?_) (by rfl)
  have hsz' : h'.objs.size = s.heap.objs.size + 1 := by rw [hs'.1, Heap.size_push]
  have keep' : ∀ b o, s.heap.get? b = some o → h'.get? b = some o := fun b o e => hs'.extBut b o (Nat.ne_of_lt (Heap.lt_size e)) (Heap.get?_push_of_some _ e)
  refine ⟨X.ok.lim.keeps keep', ?_⟩
  generalize hgo : ({ cls := .type "generator", data := .fields #[.int s.gens.size 0, .str (chopFd clos doc pm ctv c').name (s.toks + 0), .str (chopFd clos doc pm ctv c').qualname (s.toks + 0 + 1)] } : Obj) = go
  have hgf : go.isFreed = false := by rw [← hgo]; rfl
  have keep₅ : ∀ b o, s.heap.get? b = some o → (h'.push go).get? b = some o := fun b o e => Heap.get?_push_of_some _ (keep' b o e)
  have hC : b.heap.get? s.heap.objs.size = none := X.new0 (Heap.get?_none_of_le (Nat.le_refl _))
  have hgn : b.gens[s.gens.size]? = none := by
    cases q : b.gens[s.gens.size]? with
    | none => rfl
    | some x => have := X.ge.keep _ _ q; rw [Array.getElem?_eq_none (Nat.le_refl _)] at this; cases this
  have a4 : h'.objs.size ∉ T4 := X.ok₀.fresh (X.new0 (Heap.get?_none_of_le (by omega)))
  have n₅ : (h'.push go).Ns s.heap.objs.size (fun y => ([] : List (Str × Value)).reverse.lookup y) := hn'.push _
  show Q _ _
  refine h _ _ ⟨h'.objs.size + 1, s.gens.size + 1, _, Itr.gen (fl := .ret .none) (.inr rfl) hgn (Nat.lt_succ_self _) (by omega), ⟨⟨go, _, _, Heap.get?_push_size _ hgf, by subst hgo; rfl, by subst hgo; rfl, by subst hgo; rfl⟩, a4, _, Array.getElem?_push_size .., fun s'' fr X'' hr => ⟨rfl, ?_⟩⟩, by rw [Heap.size_push]; exact Nat.le_refl _, by rw [Array.size_push]; exact Nat.le_refl _⟩
    (X.pushGen rfl keep₅)
  have hI : EnvIs (newEnv (scopeOf chopD) s.heap.objs.size mainGlobals clos (chopQual ++ ".<locals>.") (some a) (.ref c') none builtinsNs) chopN := ⟨by rfl, rfl, rfl, rfl⟩
  refine seg_chop (genv := newEnv (scopeOf chopD) s.heap.objs.size mainGlobals clos (chopQual ++ ".<locals>.") (some a) (.ref c') none builtinsNs) (c1 := c1) (c2 := c2) hd ⟨hC, hcell, hcn, hap, HS.nil⟩ (by show s.heap.objs.size < _; omega) hI (by rfl) (by rfl) hc1 hc2 hv1 hv2 hsz hsz2 htl s'' (fun y => ([] : List (Str × Value)).reverse.lookup y) X'' ?_ hr
  obtain ⟨o, es, ep, e, r⟩ := n₅
  exact ⟨o, es, ep, fr.heap _ _ (by show s.heap.objs.size < _; omega) (X.ok₀.fresh hC) e, r⟩
end
end

section
def TT (S : List (Addr × Obj)) (t : Addr) (texts : List (Value × Str)) : Prop := ∃ us : List Tok, us.length = texts.length ∧ TS S t ((texts.zip us).map fun p => (p.1.1, .str p.1.2 p.2))
def chunk (said : Str) (sz i : Nat) : Str := Txt.slice said (some ((i * sz : Nat) : Int)) (some (((i + 1) * sz : Nat) : Int))
def chunks (said : Str) (sz : Nat) (cv : Value) : List (Value × Str) := (List.range (chunkN said.length sz)).map fun i => (cv, chunk said sz i)
def Joins (w : World) (B : List (Addr × Obj)) (tv : Value) (whole : Str) : Prop :=
  ∀ (A : Around) (E : Value → Shared → Prop) (Q : Value → Shared → Prop) (s : Shared) (t : Tok), A.handled = none → Ok w s.heap → HS B s.heap → (∀ t' s', Bx w s s' → Q (.str whole t') s') → wpAny (model P0 w) A (call (.builtin "str.join") [.str (Str.ofString "") t, tv]) Q E s

theorem choose_list {α : Type} {P : Nat → α → Prop} : ∀ (n : Nat), (∀ i, i < n → ∃ x, P i x) → ∃ l : List α, l.length = n ∧ ∀ i x, l[i]? = some x → P i x
  | 0, _ => ⟨[], rfl, fun i x h => by simp at h⟩
  | n + 1, h => by
    obtain ⟨l, hl, hp⟩ := choose_list n fun i hi => h i (Nat.lt_succ_of_lt hi)
    obtain ⟨x, hx⟩ := h n (Nat.lt_succ_self n)
    refine ⟨l ++ [x], by simp [hl], fun i y e => ?_⟩
    by_cases q : i < l.length
    · rw [List.getElem?_append_left q] at e; exact hp i y e
    · rw [List.getElem?_append_right (by omega)] at e
      have : i - l.length = 0 := by
        by_cases r : i - l.length = 0
        · exact r
        · rw [List.getElem?_eq_none (by simp; omega)] at e; cases e
      rw [this] at e
      cases e
      rw [show i = n by omega]; exact hx

/-- tags from a walk -/
def tagR (texts : List (Value × Str)) : Nat → List (Addr × Obj) → Value → Prop := fun i T y => ∃ a dx p u, texts[i]? = some p ∧ y = .ref a ∧ T = [(a, tagObj dx p.1 (.str p.2 u))]
theorem tagR_cls {texts : List (Value × Str)} {i : Nat} {T : List (Addr × Obj)} {y : Value} (h : tagR texts i T y) {cl : Value} (hc : Value.ref 150 ≠ cl) : ∀ p ∈ T, p.2.cls ≠ cl := by
  obtain ⟨a, dx, p, u, _, _, rfl⟩ := h
  intro q hq
  rw [List.mem_singleton.mp hq]
  exact hc
theorem acc_TT {texts : List (Value × Str)} {t dx : Addr} {acc : Array Value} {k : Nat} {F : List (Addr × Obj)} (h : Acc (tagR texts) texts.length F acc) : TT ((t, listInst 335 dx acc k) :: F) t texts := by
  obtain ⟨us, hus, hp⟩ := choose_list (P := fun i (u : Tok) => ∃ (T : List (Addr × Obj)) (a dx' : Addr) (p : Value × Str), (∀ q ∈ T, q ∈ F) ∧ texts[i]? = some p ∧ acc[i]? = some (.ref a) ∧ T = [(a, tagObj dx' p.1 (.str p.2 u))]) texts.length (fun i hi => by
    have hlt : i < acc.size := by rw [h.1]; exact hi
    obtain ⟨T, hT, a, dx', p, u, e1, e2, e3⟩ := h.2 i _ (Array.getElem?_eq_getElem hlt)
    exact ⟨u, T, a, dx', p, hT, e1, by rw [Array.getElem?_eq_getElem hlt, e2], e3⟩)
  refine ⟨us, hus, _, acc, k, .head _, ⟨.inl rfl, rfl⟩, by rw [h.1, List.length_map, List.length_zip, hus, Nat.min_self], fun j r e => ?_⟩
  have hj : j < us.length := by
    rw [hus, ← h.1]
    rcases Nat.lt_or_ge j acc.size with q | q
    · exact q
    · rw [Array.getElem?_eq_none q] at e; cases e
  obtain ⟨T, a, dx', p, hT, e1, e2, e3⟩ := hp j _ (List.getElem?_eq_getElem hj)
  rw [e] at e2; cases e2
  refine ⟨p.1, .str p.2 us[j], ⟨a, dx', rfl, .tail _ (hT _ (by rw [e3]; exact .head _))⟩, ?_⟩
  rw [List.getElem?_map, show (texts.zip us)[j]? = some (p, us[j]) from List.getElem?_zip_eq_some.mpr ⟨e1, List.getElem?_eq_getElem hj⟩]
  rfl

section
variable {w : World} {A : Around} {E : Value → Shared → Prop} {s : Shared}

theorem ttm_body {whole le : Str} {tv : Value} {tk tc ts : Tok} {c : Int} {sz d : Nat} {B : List (Addr × Obj)} {pos : List Value} {fd : FuncData} {oc od sl} (ok : Ok w s.heap) (hB : HS B s.heap) (hA : AO (d + 40) A) (hd : d ≤ 60)
    (hlook : (KF w).lookup 347 = some ⟨oc, od, .func fd, sl⟩) (F : FnOk w fd (bodyOf ttmD) (namesOf ttmD) false) (hclo : fd.closure = []) (hcd : fd.code = .ref 346) (hqn : fd.qualname = "text_to_multi_tags")
    (hbind : BindsTo s fd ⟨pos, []⟩ [(("text" : Str), tv), (("code" : Str), .int c tc), (("size" : Str), .int sz ts), (("line_ending" : Str), .str le tk)]) (hjoin : Joins w B tv whole)
    (htk0 : tk ≠ 0) (htk : tk < s.toks) (hle : ((Str.ofString "\n") == le) = false) (hw : whole.length ≤ 100000) (hll : le.length ≤ 14) (hsaid : (Txt.replace whole (Str.ofString "\n") le).length ≤ 100000) (hsz : 0 < sz) (hsz2 : sz ≤ 1000) :
    wpAny (model P0 w) A (call (.ref 347) pos) (Ret w s (fun S' v => ∃ t, v = .ref t ∧ TT S' t (chunks (Txt.replace whole (Str.ofString "\n") le) sz (.int c tc)))) E s := by
  refine callFT ok hB (d := d + 39) hA hlook F hclo hbind (by rfl) ?_
  intro env s₁ L m cm I hc hcode hq hA' hm hcm X htk₁
  have hm4 := (hm "line_ending" (by rfl)).trans (show _ = some (Value.str le tk) from rfl)
  have hm1 := (hcm "text" (by rfl)).trans (show _ = some tv from rfl)
  have hm2 := (hcm "code" (by rfl)).trans (show _ = some (Value.int c tc) from rfl)
  have hm3 := (hcm "size" (by rfl)).trans (show _ = some (Value.int sz ts) from rfl)
  have hc1 : env.cells.lookup ("text" : Str) = some (L + 1) := by rw [hc]; rfl
  have hc2 : env.cells.lookup ("code" : Str) = some (L + 2) := by rw [hc]; rfl
  have hc3 : env.cells.lookup ("size" : Str) = some (L + 3) := by rw [hc]; rfl
  walk_at "m1"
  walk_at "m1"
  refine m_str2 PySem.F.slot_str_replace PySem.F.type_str_replace (by rfl) (by rfl) (by rfl) (by rfl) ?_
  refine wpAny_with_toks htk₁ ?_
  refine m_str1 PySem.F.slot_str_join PySem.F.type_str_join (by rfl) (by rfl) (by rfl) ?_
  walk_at "m1"
  rename_i t₂ s₂ X₂
  refine ⟨_, _, rfl, ?_⟩
  walk_at "m1"
  refine hjoin _ _ _ _ _ hA'.h X₂.ok X₂.has fun t₃ s₃ hb htk₃ => ?_
  have X₃ := X₂.step hb.ok hb.kt hb.os hb.ge
  refine ⟨_, _, rfl, ?_⟩
  refine wpAny_Constant_str ?_
  have X₄ := X₃.tok (s₃.toks + 1)
  walk_at "m1"
  refine SC.replaceW (Nat.ne_of_gt (Nat.lt_of_lt_of_le (Nat.lt_of_le_of_lt (Nat.zero_le _) htk) htk₃)) htk0 (Nat.ne_of_gt (Nat.lt_of_lt_of_le htk htk₃)) hle (by omega) hll fun t₅ k₅ => ?_
  have X₅ := X₄.tok k₅
  walk_at "m1"
  rename_i s₆ X₆
  show wpAny _ _ (execs _ env) _ _ _
  walk_at "m1"
  have hqq : qualnameIn env "chop" "chop" = chopQual := by
    unfold qualnameIn
    rw [I.kindOf (x := "chop") (k := .local) (by rfl), hq, hqn]
    rfl
  refine nestDef_K (by rfl) (by rfl) (by rfl) ?_
  rw [hqq]
  refine def_chop (clos := [(("text" : Str), L + 1), (("size" : Str), L + 3)]) X₆ I.glob (hcode.trans hcd) ?_ ?_ ?_
  · unfold closureFor cellOf
    rw [hc]
    rfl
  · rw [hc, show cellsFrom (L + 1) (namesOf ttmD) [] = [(("size" : Str), L + 3), (("code" : Str), L + 2), (("text" : Str), L + 1)] from rfl]
    intro q hq
    simp only [List.mem_cons, List.not_mem_nil, or_false] at hq
    rcases hq with rfl | rfl | rfl
    · exact ⟨"size", rfl⟩
    · exact ⟨"code", rfl⟩
    · exact ⟨"text", rfl⟩
  intro a c' oc' vs tq doc pm ctv s₇ e1 e2 X₇
  walk_at "m1"
  rename_i s₈ X₈
  show wpAny _ _ (execs _ env) _ _ _
  iterate 4 (walk_at "m1")
  refine callWith_K X₈.ok.K (by kernel_rfl) ?_
  refine spliced_more ?_
  refine gx_eval (cl := [(("code" : Str), L + 2)]) (c := 346) (P := 342) ?_ (hcode.trans hcd) (by decide) (fun _ => .inl (by decide)) I.glob hA'.room (by rfl) (by decide) (by rfl) (by rfl) (by intro _; rfl) ?_
  · unfold closureFor cellOf
    rw [hc]
    rfl
  refine Call_ ?_
  walk_at "m1"
  refine callWith_F0 ⟨_, _, _, _, (X₈.has _ (.head _)).1⟩ ?_
  have hcl2 : ∀ n c, ([(("text" : Str), L + 1), (("size" : Str), L + 3)] : List (Str × Addr)).lookup n = some c → env.cells.lookup n = some c := by
    intro n c h
    have hmem := mem_of_lookup h
    simp only [List.mem_cons, List.not_mem_nil, or_false, Prod.mk.injEq] at hmem
    rcases hmem with ⟨rfl, rfl⟩ | ⟨rfl, rfl⟩
    · exact hc1
    · exact hc3
  have hn4 : ∀ n c, env.cells.lookup n = some c → c ∉ T4 := fun n c h => X₈.cn _ (mem_of_lookup h)
  show wpAny _ _ (call (.ref a) []) _ _ _
  refine call_chop (text := Txt.replace whole (Str.ofString "\n") le) (tt := t₅) (d := d) (b := s₈) (cm := fun y => if y = "text" then some (.str (Txt.replace whole (Str.ofString "\n") le) t₅) else cm y) (Bx.self X₈.ok) (hA'.le (by omega)) (by omega) (X₈.has _ (.head _)).1 ⟨c', oc', vs, tq, rfl, (X₈.dd _ (.head _)).1, e1, e2⟩ (c1 := L + 1) (c2 := L + 3) (by rfl) (by rfl)
    (fun n c h => X₈.cell n c (hcl2 n c h)) ?_ ?_ (if_pos rfl) (by walk_at "m.look") hsz hsz2 hsaid ?_
  · intro p hp
    simp only [List.mem_cons, List.not_mem_nil, or_false] at hp
    rcases hp with rfl | rfl
    · exact hn4 _ _ hc1
    · exact hn4 _ _ hc3
  · refine List.Pairwise.cons (fun q hq => ?_) (List.pairwise_singleton _ _)
    rw [List.mem_singleton.mp hq]
    show L + 1 ≠ L + 3
    omega
  intro g s₉ hr hb₉
  obtain ⟨N₁, NG₁, St₁, It, st, hN₁, hNG₁⟩ := id hr
  refine It.self 0 _ _ _ _ st ?_
  refine ⟨s₈, g, "generator", _, d + 10, _, tagR (chunks (Txt.replace whole (Str.ofString "\n") le) sz (.int c tc)), (fun y => if y = "code" then some (.int c tc) else none), [], (fun i T v m => m "part" = some v), rfl, hb₉, hr, by omega, ?_, ?_, List.pairwise_singleton _ _, HS.nil, ?_, ?_, ?_⟩
  · intro n c' h
    have hmem := mem_of_lookup h
    rw [List.mem_singleton, Prod.mk.injEq] at hmem
    obtain ⟨rfl, rfl⟩ := hmem
    have := X₈.cell _ _ hc2
    rw [show (if ("code" : Str) = "text" then some (Value.str (Txt.replace whole (Str.ofString "\n") le) t₅) else cm "code") = some (.int c tc) by walk_at "m.look"] at this
    exact this
  · intro p hp
    rw [List.mem_singleton.mp hp]
    exact hn4 _ _ hc2
  · intro cenv Ic hcl hsc St₂ hSt A i v T s m' hA _ _ _ X
    exact asg_name (Ic.kindOf (by rfl)) Ic.kind X
  · intro cenv Ic hcl hsc A i v T s m' hA hR hT hB X
    obtain ⟨hi, rfl, u, rfl⟩ := hR
    have hcc : cenv.cells.lookup ("code" : Str) = some (L + 2) := by rw [hcl]; rfl
    refine Call_ ?_
    refine nm_global Ic X (by rfl) (by decide) (v := .ref 150) (by rfl) ?_
    refine callWith_K X.ok.K (by kernel_rfl) ?_
    refine spliced_more ?_
    refine nm_free Ic X (by rfl) (by decide) (by decide) hcc (if_pos rfl) ?_
    refine spliced_more ?_
    refine nm_local Ic X (by rfl) (by decide) hB ?_
    refine spliced_none ⟨X.ok.K, ?_⟩
    refine wpAny_mono (tag_make (d := d) X.ok (hA.le (by omega))) (fun r s' hr => hr.mono fun S' _ h => ?_) fun _ _ e => e
    obtain ⟨a, dx, rfl, rfl⟩ := h
    refine ⟨a, dx, (.int c tc, chunk (Txt.replace whole (Str.ofString "\n") le) sz i), u, ?_, rfl, rfl⟩
    unfold chunks
    rw [List.getElem?_map, List.getElem?_range hi]; rfl
  · intro a s' hr' hb'
    refine spliced_none ⟨hb'.ok.K, ?_⟩
    show wpAny _ _ (call (.ref 335) [.ref a]) _ _ _
    have hN := chunkN_le (len := (Txt.replace whole (Str.ofString "\n") le).length) hsz
    refine wpAny_mono (Tags_gen hb' hr' (by omega) (hA'.le (by omega)) (fun j T v h => tagR_cls h (by decide))) (fun v s'' hR => ?_) fun _ _ e => e
    refine (Ret.pre X₈.bx hR).mono fun S' _ h => ?_
    obtain ⟨t, dx, acc, k, F', rfl, rfl, hacc, _⟩ := h
    refine ⟨t, rfl, acc_TT ?_⟩
    rwa [show (chunks (Txt.replace whole (Str.ofString "\n") le) sz (.int c tc)).length = chunkN (Txt.replace whole (Str.ofString "\n") le).length sz by simp [chunks]]
end
end

section
section
variable {w : World} {A : Around} {E : Value → Shared → Prop} {s : Shared} {B : List (Addr × Obj)}
theorem join_signs (x : Str) : Txt.join (Str.ofString "") (signs x) = x := by
  show Builtin.Str.glued _ _ = _
  rw [StrLaws.glued_eq_join]
  have h := join_ones x.cps.toList
  have e : (Str.ofString "") = (⟨#[]⟩ : Str) := rfl
  rw [e]
  unfold signs
  rw [h]
theorem joins_str {x : Str} {t : Tok} (hx : x.length ≤ 100000) : Joins w B (.str x t) x := fun A E Q s t hh ok hB h => by
  refine SC.joinStr hh (joinOk_signsN (N := 100000) (S := 0) hx (Nat.le_refl _) (by decide)) fun h' k t' hk => ?_
  rw [join_signs]
  exact h t' _ ((Bx.self ok).grow (t := k) hk)
theorem joins_list {a : Addr} {o : Obj} {items : Array Value} {k : Nat} {ys : List Str} (hm : (a, o) ∈ B) (hc : o.cls = .type "list") (hd : o.data = .seq items k) (hi : StrsAre items.toList ys) (hs : (ys.map (·.length)).sum ≤ 100000) :
    Joins w B (.ref a) (Txt.join (Str.ofString "") ys) := fun A E Q s t hh ok hB h => by
  have hl : s.heap.IsList a items := ⟨o, (hB _ hm).1, hc, k, hd⟩
  refine join_list hl hi (by show _ + ys.length * 0 ≤ _; omega) fun t' k => ?_
  exact h t' _ ((Bx.self ok).grow (t := k) fun _ _ e => e)
theorem joins_tuple {a : Addr} {o : Obj} {items : Array Value} {k : Nat} {ys : List Str} (hm : (a, o) ∈ B) (hc : o.cls = .type "tuple") (hd : o.data = .seq items k) (hi : StrsAre items.toList ys) (hs : (ys.map (·.length)).sum ≤ 100000) :
    Joins w B (.ref a) (Txt.join (Str.ofString "") ys) := fun A E Q s t hh ok hB h => by
  have hl : IsTup s.heap a items := ⟨o, (hB _ hm).1, hc, k, hd⟩
  refine join_tuple hl hi (by show _ + ys.length * 0 ≤ _; omega) fun t' k => ?_
  exact h t' _ ((Bx.self ok).grow (t := k) fun _ _ e => e)

theorem ttm_spec {whole le : Str} {tv : Value} {tk tc ts : Tok} {c : Int} {sz d : Nat} (ok : Ok w s.heap) (hB : HS B s.heap) (hA : AO (d + 40) A) (hd : d ≤ 60) (hjoin : Joins w B tv whole)
    (htk0 : tk ≠ 0) (htk : tk < s.toks) (hle : ((Str.ofString "\n") == le) = false) (hw : whole.length ≤ 100000) (hll : le.length ≤ 14) (hsaid : (Txt.replace whole (Str.ofString "\n") le).length ≤ 100000) (hsz : 0 < sz) (hsz2 : sz ≤ 1000) :
    wpAny (model P0 w) A (call (.ref 347) [tv, .int c tc, .int sz ts, .str le tk]) (Ret w s (fun S' v => ∃ t, v = .ref t ∧ TT S' t (chunks (Txt.replace whole (Str.ofString "\n") le) sz (.int c tc)))) E s := by
  obtain ⟨oc, od, fd, sl, hlook, F, hclo, hcd, hqn, hb, _⟩ := fnTtm w
  exact ttm_body ok hB hA hd hlook F hclo hcd hqn (kp_binds ok.K (hb _ _ _ _)) hjoin htk0 htk hle hw hll hsaid hsz hsz2
theorem ttm_spec1 {whole : Str} {tv : Value} {d : Nat} (ok : Ok w s.heap) (hB : HS B s.heap) (hA : AO (d + 40) A) (hd : d ≤ 60) (hjoin : Joins w B tv whole)
    (htk : 700 < s.toks) (hw : whole.length ≤ 100000) (hsaid : (Txt.replace whole (Str.ofString "\n") (Str.ofString "^J")).length ≤ 100000) :
    wpAny (model P0 w) A (call (.ref 347) [tv]) (Ret w s (fun S' v => ∃ t, v = .ref t ∧ TT S' t (chunks (Txt.replace whole (Str.ofString "\n") (Str.ofString "^J")) 255 (.int 303 623)))) E s := by
  obtain ⟨oc, od, fd, sl, hlook, F, hclo, hcd, hqn, _, hb⟩ := fnTtm w
  exact ttm_body (sz := 255) ok hB hA hd hlook F hclo hcd hqn (kp_binds ok.K (hb _)) hjoin (by decide) (Nat.lt_trans (by decide) htk) (by decide) hw (by decide) hsaid (by decide) (by decide)
theorem mtt_spec {texts : List (Value × Str)} {t : Addr} {le : Str} {tk : Tok} {d : Nat} (ok : Ok w s.heap) (hB : HS B s.heap) (hA : AO (d + 20) A) (hd : d ≤ 80)
    (hT : TT B t texts) (hn : texts.length ≤ 100000) (hsz : ((texts.map (·.2)).map (·.length)).sum ≤ 100000) (htk0 : tk ≠ 0) (htk : tk < s.toks) (hle : (le == (Str.ofString "\n")) = false) :
    wpAny (model P0 w) A (call (.ref 355) [.ref t, .str le tk]) (Ret w s (fun _ v => ∃ t', v = .str (Txt.replace (Txt.join (Str.ofString "") (texts.map (·.2))) le (Str.ofString "\n")) t')) E s := by
  obtain ⟨oc, od, fd, sl, hlook, F, hclo, hcd, hb, _⟩ := fnMtt w
  exact mtt_body (binds := []) ok hB hA hd hlook F hclo hcd (kp_binds ok.K (hb _ _)) hT hn hsz htk0 htk hle
theorem mtt_spec1 {texts : List (Value × Str)} {t : Addr} {d : Nat} (ok : Ok w s.heap) (hB : HS B s.heap) (hA : AO (d + 20) A) (hd : d ≤ 80)
    (hT : TT B t texts) (hn : texts.length ≤ 100000) (hsz : ((texts.map (·.2)).map (·.length)).sum ≤ 100000) (htk : 700 < s.toks) :
    wpAny (model P0 w) A (call (.ref 355) [.ref t]) (Ret w s (fun _ v => ∃ t', v = .str (Txt.replace (Txt.join (Str.ofString "") (texts.map (·.2))) (Str.ofString "^J") (Str.ofString "\n")) t')) E s := by
  obtain ⟨oc, od, fd, sl, hlook, F, hclo, hcd, _, hb⟩ := fnMtt w
  exact mtt_body (binds := []) ok hB hA hd hlook F hclo hcd (kp_binds ok.K (hb _)) hT hn hsz (by decide) (Nat.lt_trans (by decide) htk) (by decide)
end
end

section
open Builtin Builtin.ObjectAttr
section
variable {w : World} {A : Around} {E : Value → Shared → Prop} {s s' b : Shared} {n d : Nat} {t : Addr} {ol : Obj} {items : Array Value} {k : Nat}

theorem check_T {M : Model} {i owner n : String} {self : Value} {rest : List Value} {kw : List (Str × Value)} {Q : Unit → Shared → Prop}
    (hk : builtinKind i = some .slot ∨ builtinKind i = some .method) (hs : splitId i = some (owner, n)) (hi : Looks M s.heap (isInstance self (.type owner)) true) (ha : argsOk i ⟨self :: rest, kw⟩) (q : Q () s) :
    wpAny M A (checkBuiltinCall i ⟨self :: rest, kw⟩) Q E s := by
  rcases hk with hk | hk
  · exact check_slot hk hs hi ha q
  · simp only [checkBuiltinCall, hk, hs]
    refine wpAny_bind (hi.here ?_)
    simp only [Bool.not_true, Bool.false_eq_true, if_false]
    cases hsig : Manifest.signature? i with
    | none => exact wpAny_pure q
    | some sig =>
      simp only [argsOk, hsig] at ha
      have h2 : Bind.checkArgs i sig ⟨self :: rest, kw⟩ = pure () := ha
      show wpAny M A (Bind.checkArgs i sig ⟨self :: rest, kw⟩) Q E s
      rw [h2]; exact wpAny_pure q

abbrev finOf (P : Program) (w : World) (A : Around) (E : Value → Shared → Prop) (Q : Value → Shared → Prop) : Fin → Shared → Prop := fun fin s' => match fin with
  | .done (.ret v) => Q v s'
  | .done _ => False
  | .again c' => c'.quiet = true ∧ codeAny (model P w) A c' (fun r s' => match r with | .ok (.ret v) => Q v s' | .ok _ => False | .error e => E e s') s'

theorem call_T {id n : String} {Bi : Builtin} {args : List Value} {Q : Value → Shared → Prop} (ok : Ok w s.heap) (ht : s.heap.get? t = some ol) (hs : SeqO ol items k) (plain : plainId id = true) (entry : entryFor table id = some Bi)
    (hk : builtinKind id = some .slot ∨ builtinKind id = some .method) (hsp : splitId id = some ("list", n)) (ha : argsOk id ⟨.ref t :: args, []⟩)
    (h : wpAny (model P0 w) A.in1 (Bi ⟨.ref t :: args, []⟩) (finOf P0 w A E Q) E s) : wpAny (model P0 w) A (call (.builtin id) (.ref t :: args)) Q E s := by
  refine wpAny_call (codeAny_call_builtin plain entry (check_T hk hsp (hs.sub ok.K ht) ha ?_))
  refine wpAny_mono h (fun fin s' hf => ?_) fun _ _ e => e
  cases fin with
  | done f => cases f <;> exact hf
  | again c => exact hf

theorem special_T {name : Str} {id n : String} {Bi : Builtin} {args : List Value} {Q : Option Value → Shared → Prop} (ok : Ok w s.heap) (ht : s.heap.get? t = some ol) (hs : SeqO ol items k) (e1 : findIn (KF w) (.ref 335) name = some (some (.builtin id))) (slot : Slot "list" name id) (entry : entryFor table id = some Bi)
    (hk : builtinKind id = some .slot ∨ builtinKind id = some .method) (hsp : splitId id = some ("list", n)) (ha : argsOk id ⟨.ref t :: args, []⟩)
    (h : wpAny (model P0 w) A.in1 (Bi ⟨.ref t :: args, []⟩) (finOf P0 w A E (fun v => Q (some v))) E s) : wpAny (model P0 w) A (callSpecial? (.ref t) name args) Q E s := by
  have L := hs.find (M := model P0 w) ok.K ht e1 slot.lookup
  unfold callSpecial?
  refine wpAny_bind (L.here (wpAny_holding ?_))
  dsimp only
  rw [slot.bind]
  exact wpAny_bind (wpAny_pure (wpAny_bind (wpAny_mono (call_T ok ht hs slot.plain entry hk hsp ha h) (fun v s' q => wpAny_pure q) fun _ _ e => e)))

theorem len_T {Q : Value → Shared → Prop} (ok : Ok w s.heap) (ht : s.heap.get? t = some ol) (hs : SeqO ol items k) (hz : items.size ≤ 1000000) (h : ∀ t', Q (.int items.size t') { s with toks := s.toks + 1 + 1 }) : wpAny (model P0 w) A (call (.builtin "len") [.ref t]) Q E s := by
  refine call_function_entry kind_len plain_len entry_len (args_len1 _) ?_
  unfold Builtin.«len»
  refine wpAny_bind (m := oneArg "len" _) (wpAny_pure ?_)
  refine wpAny_bind (m := callSpecial? (.ref t) (Str.ofString "__len__")) (special_T ok ht hs (by kernel_rfl) slot_list_len entry_list_len (by decide +kernel) (n := "__len__") (by decide +kernel) (args_list_len _) ?_)
  show wpAny _ _ (do retInt (← seqSize t)) _ _ s
  unfold seqSize
  refine wpAny_bind (wpAny_bind (wpAny_loadPart ht ?_))
  rw [hs.data]
  refine wpAny_pure (wpAny_bind (wpAny_mkInt (wpAny_pure ?_)))
  refine wpAny_bind (wpAny_holding (wpAny_pure ?_))
  refine wpAny_bind (wpAny_letGo ?_)
  show wpAny _ _ (if ((items.size : Nat) : Int) < 0 then _ else _) _ _ _
  rw [if_neg (by omega)]
  show wpAny _ _ (if ((items.size : Nat) : Int) ≥ 2 ^ 63 then _ else _) _ _ _
  rw [if_neg (by omega)]
  exact wpAny_bind (wpAny_mkInt (wpAny_pure ⟨_, rfl, h _⟩))


theorem key_T {v : Value} {name : Str} {Q : Value → Shared → Prop} (ok : Ok w s.heap) (ht : s.heap.get? t = some ol) (hs : SeqO ol items k) (q : Q v s) : wpAny (model P0 w) A (sequenceKey (.ref t) v name) Q E s := by
  obtain ⟨hh, g, dr, tk, os⟩ := s
  rcases hs.cls with e | e
  · have L0 : Looks (model P0 w) hh (typeOf (.ref t)) (.ref 335) := e ▸ (Looks.ld ht).andThen .now
    unfold sequenceKey
    refine wpAny_bind (L0.at ?_)
    dsimp only
    unfold seqItemTypes
    have L1 : Looks (model P0 w) hh (isSubtype (.ref 335) (.type "collections.deque")) false := looks_mroIn ok.K (by kernel_rfl)
    refine wpAny_bind (wpAny_bind (L1.at (wpAny_pure ?_)))
    exact wpAny_pure q
  · exact wpAny_sequenceKey ⟨_, ht, e⟩ (by decide) q

theorem item_T {i : Int} {u : Tok} {x : Value} {Q : Value → Shared → Prop} (ok : Ok w s.heap) (ht : s.heap.get? t = some ol) (hs : SeqO ol items k) (h0 : 0 ≤ i) (hfit : i < 2 ^ 63) (hx : items[i.toNat]? = some x) (h : Q x s) : wpAny (model P0 w) A (getItem (.ref t) (.int i u)) Q E s := by
  unfold getItem
  refine wpAny_holding ?_
  refine wpAny_bind (key_T ok ht hs ?_)
  refine wpAny_bind (special_T ok ht hs (by kernel_rfl) slot_list_getitem entry_list_getitem (by decide +kernel) (n := "__getitem__") (by decide +kernel) (args_list_getitem _ _) ?_)
  show wpAny _ _ (Builtin.List.listSubscript? (.int i u) >>= _) _ _ s
  refine wpAny_bind (wpAny_listSubscript_int (fitsIndex_of h0 hfit) ?_)
  clear hfit
  obtain ⟨j, rfl⟩ := Int.eq_ofNat_of_zero_le h0
  have hx' : items[j]? = some x := hx
  show wpAny _ _ ((seqItemAt t j >>= fun r => pure (r.map (j, ·))) >>= _) _ _ s
  refine wpAny_bind (wpAny_bind (wpAny_seqItemAt ht hs.data (wpAny_pure ?_)))
  rw [hx']
  exact wpAny_pure (wpAny_pure h)

theorem tail_T {value slice : Expr} {i : Value} {ops : List Value} {Q : Value → Shared → Prop} (ok : Ok w s.heap) (ht : s.heap.get? t = some ol) (hs : SeqO ol items k) (hg : wpAny (model P0 w) A (getItem (.ref t) i) Q E s)
    (he : subscripted slice false (.ref t) i = operate ops (getItem (.ref t) i)) (hl : ∀ r, letTemporaryGo value (.ref t) r = pure ()) : wpAny (model P0 w) A (subscriptTail value slice (.ref t) i) Q E s := by
  have L := hs.find (M := model P0 w) ok.K ht (name := "__getitem__") (f := .builtin "list.__getitem__") (by kernel_rfl) slot_list_getitem.lookup
  unfold subscriptTail getitemInPython
  refine wpAny_bind (wpAny_bind (L.here (wpAny_pure ?_)))
  refine wpAny_bind ?_
  rw [he]
  exact wpAny_operating (wpAny_mono hg (fun r s₃ h₃ => wpAny_bind (wpAny_of_eq (hl r) (wpAny_pure h₃))) fun _ _ x => x)

theorem getslice_T {sl : Addr} {vl vu vs : Value} {lo hi st : Option Int} {Q : Value → Shared → Prop} (ok : Ok w s.heap) (ht : s.heap.get? t = some ol) (hq : SeqO ol items k) (hs : s.heap.IsSliceOf sl vl vu vs) (pl : IsPart vl lo) (pu : IsPart vu hi) (ps : IsPart vs st) (h0 : st ≠ some 0)
    (hsz : items.size ≤ sizeLine) (h : Q (.ref s.heap.objs.size) { s with heap := s.heap.push { cls := .type "list", data := .seq (slicePick items lo hi st) } }) : wpAny (model P0 w) A (getItem (.ref t) (.ref sl)) Q E s := by
  obtain ⟨os, hos, hcs, hds⟩ := id hs
  have hTs : s.TypeIs (.ref sl) "slice" := ⟨os, hos, hcs⟩
  unfold getItem
  refine wpAny_holding ?_
  refine wpAny_bind (key_T ok ht hq ?_)
  refine wpAny_bind (special_T ok ht hq (by kernel_rfl) slot_list_getitem entry_list_getitem (by decide +kernel) (n := "__getitem__") (by decide +kernel) (args_list_getitem _ _) ?_)
  show wpAny _ _ (Builtin.List.listSubscript? (.ref sl) >>= _) _ _ s
  refine wpAny_bind ?_
  unfold Builtin.List.listSubscript?
  refine wpAny_bind (wpAny_specialOf hTs slice_no_index ?_)
  simp only [Option.isNone_none, if_true]
  refine wpAny_pure ?_
  show wpAny _ _ (typeOf (.ref sl) >>= _) _ _ s
  refine wpAny_bind (wpAny_typeOf hTs ?_)
  rw [if_neg (by decide)]
  rw [listSliceParts_eq]
  have hstep : ¬ ((rawPart st == rawInt 0) = true) := by
    cases st with
    | none => exact Bool.false_ne_true
    | some c =>
      intro hh
      have : c = 0 := by simpa [rawPart, rawInt] using hh
      exact h0 (by rw [this])
  refine wpAny_bind (wpAny_bind (wpAny_field hos hds (x := vs) rfl (wpAny_bind (wpAny_listPart ps ?_))))
  rw [if_neg hstep]
  refine wpAny_bind (wpAny_field hos hds (x := vl) rfl (wpAny_bind (wpAny_listPart pl ?_)))
  refine wpAny_bind (wpAny_field hos hds (x := vu) rfl (wpAny_bind (wpAny_listPart pu (wpAny_pure ?_))))
  refine wpAny_bind (m := Builtin.List.listItems (.ref t)) ?_
  unfold Builtin.List.listItems
  refine wpAny_bind (wpAny_seqItems ht hq.data (wpAny_pure ?_))
  refine wpAny_bind (wpAny_of_eq (sliceIndices_raw lo hi st items.size h0) ?_)
  exact wpAny_bind (wpAny_newObj_type (wpAny_pure (wpAny_pure h)) (Nat.le_trans (slicePick_size_le items lo hi st) hsz))

theorem Subslice_T {env : Env} {value : Expr} {lower upper : Option Expr} {p pos : Pos} {Q : Value → Shared → Prop}
    (h : wpAny (model P0 w) A (eval value env) (fun o s₁ => wpAny (model P0 w) A (evalPart lower env) (fun vl s₂ => wpAny (model P0 w) A (evalPart upper env) (fun vu s₃ =>
      ∃ t ol items k lo hi, o = .ref t ∧ Ok w s₃.heap ∧ s₃.heap.get? t = some ol ∧ SeqO ol items k ∧ items.size ≤ sizeLine ∧ IsPart vl lo ∧ IsPart vu hi ∧
        Q (.ref (s₃.heap.objs.size + 1)) { s₃ with heap := (s₃.heap.push { cls := .type "slice", data := .fields #[vl, vu, .none] }).push { cls := .type "list", data := .seq (slicePick items lo hi none) } }) E s₂) E s₁) E s)
    (ht : ∀ o r, letTemporaryGo value o r = pure () := by intro _ _; rfl) :
    wpAny (model P0 w) A (eval (.Subscript value (.Slice lower upper none p) pos) env) Q E s := by
  refine Subscript_ (wpAny_mono h (fun o s₁ h₁ => wpAny_Slice (wpAny_mono h₁ (fun vl s₂ h₂ => wpAny_mono h₂ (fun vu s₃ h₃ => ?_) fun _ _ e => e) fun _ _ e => e)) fun _ _ e => e)
  obtain ⟨t, ol, items, k, lo, hi, rfl, ok, hl, hq, hsz, pl, pu, hQ⟩ := h₃
  rw [evalPart_none]
  refine wpAny_pure (tail_T (ops := [.ref s₃.heap.objs.size, .ref t]) (ok.keeps fun _ _ e => Heap.get?_push_of_some _ e) (Heap.get?_push_of_some _ hl) hq (getslice_T (ok.keeps fun _ _ e => Heap.get?_push_of_some _ e) (Heap.get?_push_of_some _ hl) hq (Heap.IsSliceOf.new ..) pl pu .none (by simp) hsz ?_) rfl (ht _))
  rw [Heap.size_push]
  exact hQ
end
end

section
open Builtin Builtin.ObjectAttr
section
variable {w : World} {A : Around} {E : Value → Shared → Prop} {s s' b : Shared} {n d : Nat} {t SS : Addr} {ol : Obj} {items : Array Value} {k : Nat} {dc : Option Addr} {cl : Value} {Rr : Result → Shared → Prop} {res : Value}

theorem hint_T {Q : Bool → Shared → Prop} (ok : Ok w s.heap) (ht : s.heap.get? t = some ol) (hs : SeqO ol items k) (hc : ol.cls = .ref 335) (hz : items.size ≤ 1000000) (h : Q ((items.size : Int) != 0) { s with toks := s.toks + 1 + 1 }) : wpAny (model P0 w) A (Builtin.List.listLengthHint (.ref t)) Q E s := by
  obtain ⟨hh, g, dr, tk, os⟩ := s
  have L0 : Looks (model P0 w) hh (typeOf (.ref t)) (.ref 335) := hc ▸ (Looks.ld ht).andThen .now
  have L1 := hs.find (M := model P0 w) ok.K ht (name := "__len__") (f := .builtin "list.__len__") (by kernel_rfl) slot_list_len.lookup
  have L2 := hs.sub (M := model P0 w) ok.K ht
  unfold Builtin.List.listLengthHint
  refine wpAny_bind (L1.at ?_)
  have hsp : splitId "list.__len__" = some ("list", "__len__") := by decide +kernel
  simp only [hsp]
  refine wpAny_bind (L2.at ?_)
  rw [if_neg (by decide), if_pos (by decide +kernel)]
  refine wpAny_bind (L0.at ?_)
  dsimp only
  refine wpAny_bind (len_T (s := ⟨hh, g, dr, tk, os⟩) ok ht hs hz fun t' => ?_)
  refine wpAny_bind (wpAny_pure ?_)
  exact wpAny_pure h

theorem Acc.eq {items acc : Array Value} {F : List (Addr × Obj)} (h : Acc (fun i T v => T = [] ∧ items[i]? = some v) items.size F acc) : acc = items := by
  apply Array.ext h.1
  intro i h1 h2
  obtain ⟨T, _, _, e⟩ := h.2 i _ (Array.getElem?_eq_getElem h1)
  rw [Array.getElem?_eq_getElem h2] at e
  exact (Option.some.inj e).symm

theorem extw_T (hfz : iterCls cl = false) (X : Bx w b s) (ht : s.heap.get? t = some ol) (hs : SeqO ol items k) (hc : ol.cls = .ref 335) (n4 : t ∉ T4) (hne : SS ≠ t) (hn : items.size ≤ 100000) (hA : AO (d + 2) A) (hd : d ≤ 122) (hSb : b.heap.get? SS = none) {k₀ : Nat} (hS2 : s.heap.get? SS = some (LO cl dc #[] k₀))
    (hR : ∀ s' k', Bx w b s' → s'.heap.get? SS = some (LO cl dc items k') → Rr (.ok (.ret res)) s') :
    wpAny (model P0 w) A.in1 (Builtin.List.listExtendWith (.ref SS) (.ref t) res)
      (fun fin s' => match fin with | .done f => Rr (.ok f) s' | .again c' => c'.quiet = true ∧ codeAny (model P0 w) A c' Rr s') (fun e s' => Rr (.error e) s') s := by
  have L0 : Looks (model P0 w) s.heap (typeOf (.ref t)) (.ref 335) := hc ▸ (Looks.ld ht).andThen .now
  unfold Builtin.List.listExtendWith
  refine wpAny_bind (L0.here ?_)
  have h1 : Builtin.List.listSameRef (.ref SS) (.ref t) = false := by simp [Builtin.List.listSameRef, hne]
  have h2 : (Value.ref 335 == Value.type "list") = false := by decide
  have h3 : (Value.ref 335 == Value.type "tuple") = false := by decide
  simp only [h1, h2, h3, Bool.or_false, Bool.false_eq_true, if_false]
  have kk : ∀ b o, s.heap.get? b = some o → (s.heap.push { cls := .type "list_iterator", data := .fields #[.ref t, .int 0 0] }).get? b = some o := fun _ _ e => Heap.get?_push_of_some _ e
  refine wpAny_bind (iter_T0 X.ok ht hs ?_)
  refine wpAny_bind (wpAny_holding (hint_T (X.ok.keeps kk) (kk _ _ ht) hs hc (by omega) ?_))
  have hlt := Heap.lt_size ht
  have nx : s.heap.get? s.heap.objs.size = none := Heap.get?_none_of_le (Nat.le_refl _)
  have hSI : SS ≠ s.heap.objs.size := fun q => by rw [q, nx] at hS2; cases hS2
  have It := Itr.list (w := w) (b := b) (items := items) (NG := 0) (d := d) (X.new0 nx) (Nat.lt_succ_self s.heap.objs.size) (Nat.lt_succ_of_lt hlt) hd (Nat.ne_of_lt hlt)
  have hfr : ∀ i (s₁ : Shared) h', LI s.heap.objs.size t items i s₁ → Heap.ExtBut SS s₁.heap h' → LI s.heap.objs.size t items i { s₁ with heap := h' } := by
    rintro i s₁ h' ⟨⟨o, e, r⟩, m1, m2, ol', k', e2, r2⟩ hx
    exact ⟨⟨o, hx _ _ (Ne.symm hSI) e, r⟩, m1, m2, ol', k', hx _ _ (Ne.symm hne) e2, r2⟩
  have X1 : Bx w b { s with heap := s.heap.push { cls := .type "list_iterator", data := .fields #[.ref t, .int 0 0] }, toks := s.toks + 1 + 1 } := X.grow kk
  have st1 : LI s.heap.objs.size t items 0 { s with heap := s.heap.push { cls := .type "list_iterator", data := .fields #[.ref t, .int 0 0] }, toks := s.toks + 1 + 1 } := ⟨⟨_, Heap.get?_push_size _ rfl, rfl, rfl⟩, X.ok.fresh nx, n4, ol, k, kk _ _ ht, hs.data⟩
  have go : ∀ (s₁ : Shared) (k₁ : Nat), Bx w b s₁ → LI s.heap.objs.size t items 0 s₁ → s₁.heap.get? SS = some (LO cl dc #[] k₁) → codeAny (model P0 w) A (.builtin "list.extend.loop" ⟨[.ref SS, .ref s.heap.objs.size, res], []⟩) Rr s₁ := by
    intro s₁ k₁ Y st e
    exact ext_loop (KK := fun _ => True) (fun _ _ _ h => h) (fun _ _ _ h => h) It hfz hfr hSb hn (hA.le (by omega)) (fun j T v h p hp => by rw [h.1] at hp; cases hp) (fun s' acc k F X' _ hS' hacc _ _ => by
      have := hacc.eq; subst this; exact hR s' k X' hS') _ 0 s₁ #[] k₁ [] rfl (Nat.zero_le _) st Y HS.nil e Acc.nil (fun p h => nomatch h) trivial
  have hS3 := kk _ _ hS2
  split
  · refine wpAny_bind (wpAny_rule ?_)
    refine wpAny_bind ?_
    show wpAny _ A.in1 (updateSeq SS (·.push .none) >>= fun _ => updateSeq SS (·.pop)) _ _ _
    refine wpAny_bind (wpAny_updateSeq hS3 rfl ?_)
    have hx4 := (Heap.SameBut.update (h := (s.heap.push { cls := .type "list_iterator", data := .fields #[.ref t, .int 0 0] })) (a := SS) (f := Obj.mapSeq (·.push Value.none))).extBut
    have hS4 := Heap.get?_update_self (Obj.mapSeq (·.push Value.none)) hS3 rfl
    refine wpAny_updateSeq (hz := by seq_fits) hS4 rfl ?_
    have hx5 := (Heap.SameBut.update (h := ((s.heap.push { cls := .type "list_iterator", data := .fields #[.ref t, .int 0 0] }).update SS (Obj.mapSeq (·.push Value.none)))) (a := SS) (f := Obj.mapSeq (·.pop))).extBut
    have hS5 := Heap.get?_update_self (Obj.mapSeq (·.pop)) hS4 rfl
    have X4 := X1.upd (t := s.toks + 1 + 1) hSb hS3 (.seq rfl) hx4
    have X5 := X4.upd (t := s.toks + 1 + 1) hSb hS4 (.seq rfl) hx5
    exact wpAny_pure ⟨plainId_quiet PySem.F.plain_extend_loop _, go _ _ X5 (hfr _ _ _ (hfr _ _ _ st1 hx4) hx5) hS5⟩
  · exact wpAny_pure ⟨plainId_quiet PySem.F.plain_extend_loop _, go _ _ X1 st1 hS3⟩

/-- Tags of a Tags, of a list -/
theorem Tags_T (ok : Ok w s.heap) (ht : s.heap.get? t = some ol) (hs : SeqO ol items k) (n4 : t ∉ T4) (hn : items.size ≤ 100000) (hA : AO (d + 5) A) (hd : d ≤ 122) :
    wpAny (model P0 w) A (call (.ref 335) [.ref t]) (Ret w s (fun S' r => ∃ t' dx k', r = .ref t' ∧ S' = [(t', listInst 335 dx items k')])) E s := by
  obtain ⟨hh, g, dr, tk, os⟩ := s
  have hk : ∀ a o, hh.get? a = some o → ((hh.push emptyDict).push (listInst 335 hh.objs.size #[] 0)).get? a = some o := fun b o e => Heap.get?_push_of_some _ (Heap.get?_push_of_some _ e)
  have nx : hh.get? (hh.objs.size + 1) = none := Heap.get?_none_of_le (Nat.le_succ _)
  have gx : ((hh.push emptyDict).push (listInst 335 hh.objs.size #[] 0)).get? (hh.objs.size + 1) = some (listInst 335 hh.objs.size #[] 0) := by heap_get
  have hne : hh.objs.size + 1 ≠ t := fun q => by rw [q, ht] at nx; cases nx
  refine wpAny_call (make_L (makesL_of ok.K (by kernel_rfl)) (looks_findIn ok.K (show findIn (KF w) (.ref 335) "__init__" = some (some (.builtin "list.__init__")) by kernel_rfl)) (fun self => Looks.of_pure (PySem.F.slot_list_init.bind self)) ?_)
  have hsub : Looks (model P0 w) ((hh.push emptyDict).push (listInst 335 hh.objs.size #[] 0)) (isInstance (.ref (hh.objs.size + 1)) (.type "list")) true :=
    ((Looks.ld gx).andThen .now).andThen ((looks_mroIn (M := model P0 w) ok.K (by kernel_rfl : mroIn (KF w) 335 (.type "list") = some true)).keeps hk)
  refine codeAny_call_builtin PySem.F.slot_list_init.plain PySem.F.entry_list_init ?_
  refine check_slot (i := "list.__init__") (owner := "list") (n := "__init__") (self := .ref (hh.objs.size + 1)) (rest := [.ref t]) (kw := []) li_kind li_split hsub (PySem.F.args_list_init_2 _ _) ?_
  have X0 : Bx w ⟨hh, g, dr, tk, os⟩ ⟨(hh.push emptyDict).push (listInst 335 hh.objs.size #[] 0), g, dr, tk, os⟩ := (Bx.self ok).grow (t := tk) hk
  show wpAny _ _ (do let old ← Builtin.List.listItems (.ref (hh.objs.size + 1)); Builtin.List.listUpdate (.ref (hh.objs.size + 1)) (fun _ => #[]); letGo old.toList.reverse; Builtin.List.listExtendWith (.ref (hh.objs.size + 1)) (.ref t) .none) _ _ _
  refine wpAny_bind ?_
  unfold Builtin.List.listItems
  refine wpAny_bind (wpAny_seqItems gx rfl (wpAny_pure ?_))
  show wpAny _ _ (updateSeq (hh.objs.size + 1) (fun _ => #[]) >>= fun _ => letGo (#[] : Array Value).toList.reverse >>= fun _ => Builtin.List.listExtendWith (.ref (hh.objs.size + 1)) (.ref t) .none) _ _ _
  refine wpAny_bind (wpAny_updateSeq gx rfl ?_)
  have hS2 := Heap.get?_update_self (Obj.mapSeq (fun _ => (#[] : Array Value))) gx rfl
  have hx := (Heap.SameBut.update (h := (hh.push emptyDict).push (listInst 335 hh.objs.size #[] 0)) (a := hh.objs.size + 1) (f := Obj.mapSeq (fun _ => (#[] : Array Value)))).extBut
  refine wpAny_bind (wpAny_letGo ?_)
  have X1 := X0.upd (t := tk) nx gx (.seq rfl) hx
  have ht1 := hx _ _ (Ne.symm hne) (hk _ _ ht)
  have fin : ∀ s' k', Bx w ⟨hh, g, dr, tk, os⟩ s' → s'.heap.get? (hh.objs.size + 1) = some (listInst 335 hh.objs.size items k') → InitBack (hh.objs.size + 1) (fun r s' => match r with | .ok (.ret v) => Ret w ⟨hh, g, dr, tk, os⟩ (fun S' r => ∃ t' dx k', r = .ref t' ∧ S' = [(t', listInst 335 dx items k')]) v s' | .ok _ => False | .error e => E e s') (.ok (.ret .none)) s' :=
    fun s' k' X e => ⟨rfl, X.ret (S := [(hh.objs.size + 1, listInst 335 hh.objs.size items k')]) (HS.nil.cons e (ok.fresh nx) rfl) ⟨_, _, _, rfl, rfl⟩⟩
  rcases hs.cls with hc | hc
  · exact extw_T (cl := .ref 335) (dc := some hh.objs.size) rfl X1 ht1 hs hc n4 hne hn (hA.tcall.le (by omega)) hd nx hS2 fin
  · unfold Builtin.List.listExtendWith
    refine wpAny_bind (wpAny_typeOf (T := "list") ⟨_, ht1, hc⟩ ?_)
    rw [if_pos (by rw [Bool.or_eq_true, Bool.or_eq_true]; exact .inl (.inr (by decide)))]
    unfold Builtin.List.listItems
    refine wpAny_bind (wpAny_bind (wpAny_seqItems ht1 hs.data (wpAny_pure ?_)))
    refine wpAny_bind (wpAny_bind (wpAny_seqItems hS2 rfl (wpAny_pure ?_)))
    show wpAny _ _ (updateSeq (hh.objs.size + 1) (fun x => x ++ items) >>= fun _ => ret .none) _ _ _
    refine wpAny_bind (wpAny_updateSeq hS2 rfl ?_ (Nat.zero_le _) (by show ((#[] : Array Value) ++ items).size ≤ sizeLine + 1; rw [Array.size_append, sizeLine_eq]; show 0 + items.size ≤ _; omega))
    have hS3 := Heap.get?_update_self (Obj.mapSeq (fun x => x ++ items)) hS2 rfl
    have hx3 := (Heap.SameBut.update (h := ((hh.push emptyDict).push (listInst 335 hh.objs.size #[] 0)).update (hh.objs.size + 1) (Obj.mapSeq (fun _ => (#[] : Array Value)))) (a := hh.objs.size + 1) (f := Obj.mapSeq (fun x => x ++ items))).extBut
    obtain ⟨k', hk'⟩ : ∃ k', Obj.mapSeq (fun x => x ++ items) (Obj.mapSeq (fun _ => (#[] : Array Value)) (listInst 335 hh.objs.size #[] 0)) = listInst 335 hh.objs.size items k' := by
      have e : (#[] : Array Value) ++ items = items := Array.empty_append
      have e2 : ∀ (ys : Array Value) (n : Nat), ys = items → ∃ k', ({ cls := .ref 335, dict := some hh.objs.size, data := .seq ys n, slots := #[] } : Obj) = listInst 335 hh.objs.size items k' := fun ys n q => ⟨n, by rw [q]⟩
      exact e2 _ _ e
    exact wpAny_pure (fin _ k' (X1.upd (t := tk) nx hS2 (.seq rfl) hx3) (hS3.trans (congrArg some hk')))
end
end

section
def entriesOk : List (Int × Value) → List Int → Bool
  | [], [] => true
  | (h, .int i _) :: r, n :: ns => h == hashInt i && i == n && entriesOk r ns
  | _, _ => false
def setCheck (o : Obj) (ns : List Int) : Bool := match o with
  | ⟨.type n, none, .set es _ t, sl⟩ => n == "set" && sl.size == 0 && t.fits es.size && entriesOk es.toList ns
  | _ => false
theorem entriesOk_of {w : World} : ∀ {es : List (Int × Value)} {ns : List Int}, entriesOk es ns = true → ElemsOf (intKind P0 w) es ∧ (∀ k, (k ∈ ns) ↔ ∃ e ∈ es, (intKind P0 w).is k e.2 = true) ∧ es.length = ns.length
  | [], [], _ => ⟨fun e he => (nomatch he), fun k => ⟨fun h => (nomatch h), fun ⟨e, he, _⟩ => (nomatch he)⟩, rfl⟩
  | (h, .int i t) :: r, n :: ns, e => by
    simp only [entriesOk, Bool.and_eq_true, beq_iff_eq] at e
    obtain ⟨⟨rfl, rfl⟩, e⟩ := e
    obtain ⟨a, b, c⟩ := entriesOk_of (w := w) e
    have hi : ∀ k, (intKind P0 w).is k (.int i t) = true ↔ k = i := fun k => by
      show Value.isInt k (.int i t) = true ↔ _
      simp [Value.isInt]
      exact eq_comm
    refine ⟨fun x hx => ?_, fun k => ?_, by simp [c]⟩
    · rcases List.mem_cons.mp hx with rfl | hx
      · exact ⟨⟨i, (hi i).mpr rfl, rfl⟩, rfl⟩
      · exact a x hx
    · rw [List.mem_cons, b k]
      constructor
      · rintro (rfl | ⟨x, hx, hk⟩)
        · exact ⟨_, .head _, (hi k).mpr rfl⟩
        · exact ⟨x, .tail _ hx, hk⟩
      · rintro ⟨x, hx, hk⟩
        rcases List.mem_cons.mp hx with rfl | hx
        · exact .inl ((hi k).mp hk)
        · exact .inr ⟨x, hx, hk⟩
theorem setCheck_of {w : World} {o : Obj} {ns : List Int} (e : setCheck o ns = true) : o.SetObjOf (intKind P0 w) (fun k => decide (k ∈ ns)) ns.length := by
  unfold setCheck at e
  split at e
  · rename_i n es ep t sl
    simp only [Bool.and_eq_true, beq_iff_eq] at e
    obtain ⟨⟨⟨rfl, e2⟩, e3⟩, e4⟩ := e
    obtain ⟨a, b, c⟩ := entriesOk_of (w := w) e4
    refine ⟨⟨rfl, rfl, Array.eq_empty_of_size_eq_zero e2⟩, es, ep, t, rfl, a, fun k => ?_, by rw [← c]; rfl, e3⟩
    rw [decide_eq_true_eq]; exact b k
  · cases e

section
variable {w : World} {A : Around} {E : Value → Shared → Prop} {s s' b : Shared} {n d : Nat}
def validNs : List Int := [1000, 1001, 1002, 1003, 1004, 1005, 1070, 1071, 1040, 1041, 1010, 1011, 1012, 1013, 1042]
theorem in_valid {c : Int} {t : Tok} {Q : Value → Shared → Prop} (ok : Ok w s.heap) (h : Q (.bool (decide (c ∈ validNs))) { s with toks := s.toks + 1 }) : wpAny (model P0 w) A (compareOp .In (.int c t) (.ref 59)) Q E s := by
  obtain ⟨o, ho, hc⟩ : ∃ o, (KF w).lookup 59 = some o ∧ setCheck o validNs = true := ⟨_, rfl, by kernel_rfl⟩
  have hS := (setCheck_of (w := w) hc).setOf (ok.K _ _ ho) (show validNs.length < scanBound by decide)
  exact wpAny_inSet_of (k := c) (show Value.isInt c (.int c t) = true by simp [Value.isInt]) rfl hS h

theorem all_gen {a : Addr} {R : Nat → List (Addr × Obj) → Value → Prop} {Q : Value → Shared → Prop} (X : Bx w b s) (I : Ready w b a "generator" n d R s) (hA : AO (d + 2) A) (hR : ∀ j T v, R j T v → v = .bool true) (h : ∀ s', Bx w b s' → Q (.bool true) s') :
    wpAny (model P0 w) A (call (.builtin "all") [.ref a]) Q E s := by
  obtain ⟨N, NG, St, I, hst, hN, hNG⟩ := I
  refine call_function_tree F.kind_all F.plain_all F.entry_all (F.args_all1 _) ?_
  unfold Builtin.«all»
  refine wpAny_bind (m := oneArg "all" _) (wpAny_pure ?_)
  refine wpAny_bind (I.self 0 _ _ _ _ hst ?_)
  refine wpAny_pure ⟨plainId_quiet F.plain_all_loop _, ?_⟩
  have loop : ∀ (m i : Nat) (s : Shared), n - i = m → i ≤ n → St i s → Bx w b s → codeAny (model P0 w) A (.builtin "all.loop" ⟨[.ref a], []⟩) (fun r s' => match r with | .ok (.ret v) => Q v s' | .ok _ => False | .error e => E e s') s := by
    intro m
    induction m with
    | zero =>
      intro i s hm hi st X
      have : i = n := by omega
      subst this
      refine codeAny_builtin F.entry_all_loop ?_
      rw [Around.under_plainId F.plain_all_loop _]
      show wpAny _ A.in1 (pyNext (.ref a) >>= _) _ _ s
      refine wpAny_bind (wpAny_up (hA.in1.le (Nat.le_succ d)) (wpAny_mono (I.done s (fun _ _ => False) st X) (fun o s' h' => ?_) fun _ _ e => e.elim))
      obtain ⟨rfl, X', M⟩ := h'
      exact wpAny_bind (wpAny_rule (wpAny_pure (h _ X')))
    | succ m ih =>
      intro i s hm hi st X
      refine codeAny_builtin F.entry_all_loop ?_
      rw [Around.under_plainId F.plain_all_loop _]
      show wpAny _ A.in1 (pyNext (.ref a) >>= _) _ _ s
      refine wpAny_bind (wpAny_up (hA.in1.le (Nat.le_succ d)) (wpAny_mono (I.item i s (fun _ _ => False) (by omega) st X) (fun o s' h' => ?_) fun _ _ e => e.elim))
      obtain ⟨v, T', rfl, hT, hv, st', X', M⟩ := h'
      have := hR _ _ _ hv
      subst this
      refine wpAny_bind (wpAny_holding (wpAny_truthy_bool ?_))
      refine wpAny_bind (wpAny_letGo ?_)
      simp only [if_true]
      exact wpAny_pure ⟨plainId_quiet F.plain_all_loop _, ih (i + 1) s' (by omega) (by omega) st' X'⟩
  exact loop n 0 s rfl (Nat.zero_le _) hst X

def VT (B : List (Addr × Obj)) (t : Addr) : Prop := ∃ ol, ∃ items : Array Value, ∃ k, (t, ol) ∈ B ∧ SeqO ol items k ∧ items.size ≤ 100000 ∧ ∀ (j : Nat) (r : Value), items[j]? = some r → ∃ c tc v, IsTag B r (.int c tc) v ∧ c ∈ validNs

abbrev hvD : Stmt := topS 17
theorem fnHv (w : World) : ∃ oc od fd sl, (KF w).lookup 382 = some ⟨oc, od, .func fd, sl⟩ ∧ FnOk w fd (bodyOf hvD) (namesOf hvD) false ∧ fd.closure = [] ∧ fd.code = .ref 381 ∧ ∀ a, bindArgs fd ⟨[a], []⟩ = (pure [(("tags" : Str), a)] : Sem (List (Str × Value))) :=
  ⟨_, _, _, _, rfl, ⟨by kernel_rfl, by kernel_rfl, by kernel_rfl, by kernel_rfl, by kernel_rfl, by kernel_rfl, by kernel_rfl, by kernel_rfl⟩, by kernel_rfl, by kernel_rfl, fun a => by kernel_rfl⟩

theorem hv_spec {t : Addr} {B : List (Addr × Obj)} (ok : Ok w s.heap) (hB : HS B s.heap) (hA : AO (d + 20) A) (hd : d ≤ 80) (hT : VT B t) : wpAny (model P0 w) A (call (.ref 382) [.ref t]) (Ret w s (fun _ v => v = .bool true)) E s := by
  obtain ⟨oc, od, fd, sl, hlook, F, hclo, hcd, hb⟩ := fnHv w
  refine callF ok hB (d := d + 19) hA hlook F hclo (BindsTo.of_eq (hb _)) (by rfl) ?_
  intro env s₁ L m cm I hc hcode hq hA' hm hcm X
  have hm1 := (hm "tags" (by rfl)).trans (show _ = some (Value.ref t) from rfl)
  obtain ⟨ol, items, k, hol, hseq, hsize, hitems⟩ := hT
  iterate 3 (walk_at "m1")
  walk_at "m1"
  refine PyProof.Rows.callWith_builtin1 ?_
  refine spliced_more ?_
  refine gx_eval (cl := []) (c := 381) (P := 377) (by rfl) (hcode.trans hcd) (by decide) (fun e => absurd e (by decide)) I.glob hA'.room (by rfl) (by decide) (by rfl) (by rfl) (by intro _; rfl) ?_
  walk_at "m1"
  obtain ⟨hol', hol4, _⟩ := X.has _ hol
  refine iter_T0 X.ok hol' hseq ?_
  have X₃ : Bx w s₁ { s₁ with heap := s₁.heap.push { cls := .type "list_iterator", data := .fields #[.ref t, .int 0 0] } } := (Bx.self X.ok).grow (t := s₁.toks) fun _ _ e => Heap.get?_push_of_some _ e
  refine ⟨s₁, _, _, items.size, d + 4, (fun i T v => T = [] ∧ items[i]? = some v), (fun i T v => T = [] ∧ v = .bool true), (fun _ => none), B, (fun i T v m => m "tag" = some v), rfl,
    X₃, Ready.list X.ok hol' hseq.data hol4 (by omega), by omega, (fun n c e => by cases e), (fun p h => by cases h), .nil, X.has, ?_, ?_, ?_⟩
  · intro cenv Ic hcl hsc St₁ hSt A i v T s m' hA _ _ _ X
    exact asg_name (Ic.kindOf (by rfl)) Ic.kind X
  · intro cenv Ic hcl hsc A i v T s m' hA hR hT hB X
    obtain ⟨c, tc, v', hI, hv⟩ := hitems i v hR.2
    refine wpAny_Compare1 ?_
    refine Attribute_name ?_
    refine nm_local Ic X (by rfl) (by decide) hB ?_
    refine tag_code0 (d := d + 1) X.ok X.has hI hA rfl fun s' r => ?_
    refine nm_global Ic (X.step r.ok r.kt r.os r.ge) (by rfl) (by decide) (v := .ref 59) (by rfl) ?_
    refine in_valid r.ok ?_
    rw [decide_eq_true hv]
    exact ⟨r.ok, r.kt, r.os, r.ge, [], HS.nil, rfl, rfl⟩
  · intro a s₄ hr hb
    refine spliced_none ?_
    show wpAny _ _ (call (.builtin "all") [.ref a]) _ _ _
    refine all_gen hb hr (hA'.le (by omega)) (fun j T v h => h.2) fun s' hb' => ?_
    exact (X.step hb'.ok hb'.kt hb'.os hb'.ge).ret rfl
end
end

section
theorem dt0 : checkTypeCall "dict" ⟨[], []⟩ = pure () := by kernel_rfl
theorem dn0 : checkBuiltinCall "dict.__new__" ⟨[.type "dict"], []⟩ = pure () := by kernel_rfl
theorem di_args (a : Value) : argsOk "dict.__init__" ⟨[a], []⟩ := by unfold argsOk; kernel_rfl
section
variable {w : World} {A : Around} {E : Value → Shared → Prop} {s₀ s s' b : Shared} {env : Env} {ow : Ow} {m cm : Str → Option Value} {S : List (Addr × Obj)} {v : Value} {x C dx : Addr} {name : Str}

theorem dict0 {prog : Program} {Q : Value → Shared → Prop} (h : Q (.ref s.heap.objs.size) { s with heap := s.heap.push emptyDict }) : wpAny (model prog w) A (call (.type "dict") []) Q E s := by
  refine callType_codes (Q₁ := fun obj s₁ => obj = .ref s.heap.objs.size ∧ s₁ = { s with heap := s.heap.push emptyDict }) F.kt_called_dict dt0 F.entry_dict_init ?_ ?_
  · refine codeAny_call_builtin F.kt_plain_dict_new F.kt_entry_dict_new (wpAny_of_eq dn0 ?_)
    have hsub := F.kt_sub_dict
    have hmro := F.kt_mro_dict
    obtain ⟨hp, g, d, tk, os⟩ := s
    unfold Builtin.«dict.__new__»
    wp_walk
    exact ⟨rfl, rfl⟩
  · rintro obj s₁ ⟨rfl, rfl⟩
    have hT : Shared.TypeIs { s with heap := s.heap.push emptyDict } (.ref s.heap.objs.size) "dict" := ⟨_, Heap.get?_push_size _ rfl, rfl⟩
    refine ⟨hT, di_args _, ?_⟩
    unfold Builtin.«dict.__init__»
    refine wpAny_bind ?_
    unfold Builtin.Dict.selfAndRest
    refine wpAny_bind (wpAny_notOrdered_dict hT ?_)
    show wpAny _ _ (pure (s.heap.objs.size, [])) _ _ _
    refine wpAny_pure ?_
    show wpAny _ _ (Builtin.Dict.addKeywords s.heap.objs.size [] >>= fun _ => ret .none) _ _ _
    exact wpAny_bind (wpAny_pure (wpAny_pure ⟨rfl, h⟩))

def dict1 (w : World) (name : Str) (tk : Tok) (v : Value) : Obj := { cls := .type "dict", data := .dict #[⟨PyData.keyHash w.params name, .str name tk, v⟩] 1 }

theorem xd_set {b : Bool} {D : List (Addr × Obj)} {Q : Unit → Shared → Prop} (X : Fx w s₀ env ⟨.of b, (dx, emptyDict) :: (x, instObj C dx) :: D⟩ m cm S s) (hdx : s₀.heap.get? dx = none) (hD : ∀ p ∈ ((x, instObj C dx) :: D), p.1 ≠ dx) (hS : ∀ p ∈ S, p.1 ≠ dx)
    (hs : findIn (KF w) (.ref C) "__setattr__" = some (some (.builtin "object.__setattr__"))) (hp : plainOver (KF w) C = true) (ht : takerIn (KF w) C name = some none) (hh : (clsIn (KF w) C).any (·.hasDict) = true)
    (e : ∀ tk, Obj.putName name (PyData.keyHash w.params name) (.str name tk) v emptyDict = dict1 w name tk v) (h : ∀ tk s', Fx w s₀ env ⟨.of b, (dx, dict1 w name tk v) :: (x, instObj C dx) :: D⟩ m cm S s' → Q () s') :
    wpAny (model P0 w) A (setAttr (.ref x) name v) Q E s := by
  have D0 := (X.dd _ (.head _)).1
  have D1 := (X.dd _ (.tail _ (.head _))).1
  have I : InstAt s.heap x (instObj C dx) C (some emptyDict) := ⟨D1, rfl, rfl, D0⟩
  refine set_plain X.ok.K I hs ?_
  refine osa_open (s := { s with toks := s.toks + 1 }) X.ok.K I hp ht fun b' => ?_
  obtain ⟨cd, hc, hd'⟩ := any_some hh
  refine wpAny_bind (wpAny_pure (wpAny_bind (wpAny_bind (wpAny_loadPart D1 (wpAny_bind (Looks.at (looks_clsIn X.ok.K hc) ?_))))))
  rw [hd']
  refine wpAny_pure (a := some dx) (wpAny_bind (wpAny_pure (wpAny_bind ?_)))
  unfold nsSet
  refine wpAny_bind (wpAny_bind (wpAny_askSetting (wpAny_pure (wpAny_bind (wpAny_mkText (wpAny_bind (wpAny_loadPart D0 ?_)))))))
  dsimp only
  rw [aRefKeyMayBeTheName_at, show (!(#[] : Array DictEntry).any (·.key.isStr name) && (#[] : Array DictEntry).any (·.refKey)) = false from by simp]
  refine wpAny_updatePart D0 ?_
  have hu := Heap.get?_update_self (h := s.heap) (Obj.putName name (PyData.keyHash w.params name) (.str name (s.toks + 1)) v) D0 (by rw [e]; rfl)
  rw [e] at hu
  refine wpAny_bind (wpAny_lookBehind hu (by exact pastItsLine_dict (by show 1 ≤ _; rw [sizeLine_eq]; omega)) ?_)
  exact wpAny_pure (h _ _ (X.updD hdx hD hS (.dict rfl) hu (Heap.SameBut.update ..).extBut))
end
end

section
abbrev xInitD : Stmt := subS (topS 18) 0
theorem fnXInit (w : World) : ∃ oc od fd sl, (KF w).lookup 397 = some ⟨oc, od, .func fd, sl⟩ ∧ FnOk w fd (bodyOf xInitD) (namesOf xInitD) false ∧ fd.closure = [] ∧ ∀ a S, peek (KF w) S (bindArgs fd ⟨[a], []⟩) = some [(("self" : Str), a), (("xdata" : Str), .none)] :=
  ⟨_, _, _, _, rfl, ⟨by kernel_rfl, by kernel_rfl, by kernel_rfl, by kernel_rfl, by kernel_rfl, by kernel_rfl, by kernel_rfl, by kernel_rfl⟩, by kernel_rfl, fun a S => by kernel_rfl⟩

/-- an XData: its object, its own dict, its table -/
structure XD (w : World) (h : Heap) (x dx d : Addr) (tk : Tok) (od : Obj) : Prop where
  hx : h.get? x = some (instObj 494 dx)
  hdx : h.get? dx = some (dict1 w "data" tk (.ref d))
  hd : h.get? d = some od

section
variable {w : World} {A : Around} {E : Value → Shared → Prop} {s s' : Shared}
theorem xd_make {dd : Nat} (ok : Ok w s.heap) (hA : AO (dd + 3) A) : wpAny (model P0 w) A (call (.ref 494) []) (fun v s' => ∃ x dx d tk, v = .ref x ∧ Bx w s s' ∧ XD w s'.heap x dx d tk emptyDict ∧ s.heap.get? x = none ∧ s.heap.get? dx = none ∧ s.heap.get? d = none ∧ dx ≠ x ∧ d ≠ x ∧ d ≠ dx) E s := by
  obtain ⟨oc, od, fd, sl, hlook, F, hclo, hb⟩ := fnXInit w
  obtain ⟨hh, g, dr, t, os⟩ := s
  refine wpAny_call (make_core (makes_of ok.K (by kernel_rfl)) (looks_findIn ok.K (show findIn (KF w) (.ref 494) "__init__" = some (some (.ref 397)) by kernel_rfl)) (fun self => bind_fn ok.K self (by kernel_rfl)) (.inl rfl) ?_)
  have kk : ∀ b o, hh.get? b = some o → ((hh.push emptyDict).push (instObj 494 hh.objs.size)).get? b = some o := fun b o e => Heap.get?_push_of_some _ (Heap.get?_push_of_some _ e)
  have nx : hh.get? (hh.objs.size + 1) = none := Heap.get?_none_of_le (Nat.le_succ _)
  have nd : hh.get? hh.objs.size = none := Heap.get?_none_of_le (Nat.le_refl _)
  have gx : ((hh.push emptyDict).push (instObj 494 hh.objs.size)).get? (hh.objs.size + 1) = some (instObj 494 hh.objs.size) := by heap_get
  have gd : ((hh.push emptyDict).push (instObj 494 hh.objs.size)).get? hh.objs.size = some emptyDict := by heap_get
  refine codeAny_mono (callQ (E := fun _ _ => False) (Q := fun r s' => r = .none ∧ ∃ d tk, Bx w ⟨hh, g, dr, t, os⟩ s' ∧ XD w s'.heap (hh.objs.size + 1) hh.objs.size d tk emptyDict ∧ hh.get? d = none ∧ d ≠ hh.objs.size + 1 ∧ d ≠ hh.objs.size) (D := [(hh.objs.size, emptyDict), (hh.objs.size + 1, instObj 494 hh.objs.size)]) (d := dd + 1)
    (ok.keeps kk) HS.nil ?_ hA.tcall hlook F hclo (kp_binds (ok.keeps kk).K (hb _)) (by rfl) ?_) ?_
  · intro p hp
    simp only [List.mem_cons, List.not_mem_nil, or_false] at hp
    rcases hp with rfl | rfl
    · exact ⟨gd, ok.fresh nd⟩
    · exact ⟨gx, ok.fresh nx⟩
  · intro env s₁ L m cm I hc hcode hq hA' hm hcm X
    replace X := X.older (s₁ := ⟨hh, g, dr, t, os⟩) ok (KT.of kk) rfl (GE.refl _)
    have hm1 := (hm "self" (by rfl)).trans (show _ = some (Value.ref (hh.objs.size + 1)) from rfl)
    have hm2 := (hm "xdata" (by rfl)).trans (show _ = some Value.none from rfl)
    walk_at "m1"
    walk_at "m1"
    refine Call_ ?_
    walk_at "m1"
    refine callWith_type0 ?_
    refine dict0 ?_
    have nd2 : s₁.heap.get? s₁.heap.objs.size = none := Heap.get?_none_of_le (Nat.le_refl _)
    have hlx := Heap.lt_size (X.dd _ (.tail _ (.head _))).1
    have hld := Heap.lt_size (X.dd _ (.head _)).1
    have X2 := (X.grow (h' := s₁.heap.push emptyDict) (t := s₁.toks) fun _ _ e => Heap.get?_push_of_some _ e).addD (D' := [(s₁.heap.objs.size, emptyDict)]) fun p hp => by
      rw [List.mem_singleton.mp hp]
      refine ⟨Heap.get?_push_size _ rfl, X.ok.fresh nd2, fun q => ?_, fun q hq e => ?_⟩
      · obtain ⟨oL, es, ep, eL, _⟩ := X.ns
        rw [← q] at eL; exact absurd (Heap.lt_size eL) (Nat.lt_irrefl _)
      · rw [hc] at hq
        exact absurd hq (by rw [show cellsFrom (L + 1) (namesOf xInitD) [] = [] from rfl]; exact List.not_mem_nil)
    have X3 := X2.dropD (D' := [(hh.objs.size, emptyDict), (hh.objs.size + 1, instObj 494 hh.objs.size), (s₁.heap.objs.size, emptyDict)]) (fun p hp => by
      simp only [List.mem_cons, List.not_mem_nil, or_false, List.cons_append, List.nil_append] at hp ⊢
      rcases hp with h | h | h
      · exact .inr (.inl h)
      · exact .inr (.inr h)
      · exact .inl h)
    walk_at "m1"
    refine xd_set X3 nd ?_ (fun p hp => nomatch hp) (by kernel_rfl) (by kernel_rfl) (by kernel_rfl) (by kernel_rfl) (fun tk => by rfl) fun tk s₃ X4 => ?_
    · intro p hp
      simp only [List.mem_cons, List.not_mem_nil, or_false] at hp
      rcases hp with rfl | rfl
      · exact Nat.succ_ne_self _
      · exact Nat.ne_of_gt hld
    show wpAny _ _ (execs _ env) _ _ _
    repeat (walk_at "m1")
    rw [if_neg (by decide)]
    walk_at "m1"
    dsimp only
    walk_at "m1"
    have e1 := X4.dd _ (.head _)
    have e2 := X4.dd _ (.tail _ (.head _))
    have e3 := X4.dd _ (.tail _ (.tail _ (.head _)))
    exact ⟨rfl, _, _, X4.bx, ⟨e2.1, e1.1, e3.1⟩, X.bx.new0 nd2, Nat.ne_of_gt hlx, Nat.ne_of_gt hld⟩
  · rintro r s' ⟨v', rfl, rfl, d, tk, h1, h2, h3, h4, h5⟩
    exact ⟨rfl, _, _, _, _, rfl, h1, h2, nx, nd, h3, Nat.ne_of_lt (Nat.lt_succ_self _), h4, h5⟩
end
end

section
abbrev xAddD : Stmt := subS (topS 18) 5
theorem fnX_add (w : World) : ∃ oc od fd sl, (KF w).lookup 435 = some ⟨oc, od, .func fd, sl⟩ ∧ FnOk w fd (bodyOf xAddD) (namesOf xAddD) false ∧ fd.closure = [] ∧ ∀ a b, bindArgs fd ⟨[a, b], []⟩ = (pure [(("self" : Str), a), (("tags" : Str), b)] : Sem (List (Str × Value))) :=
  ⟨_, _, _, _, rfl, ⟨by kernel_rfl, by kernel_rfl, by kernel_rfl, by kernel_rfl, by kernel_rfl, by kernel_rfl, by kernel_rfl, by kernel_rfl⟩, by kernel_rfl, fun a b => by kernel_rfl⟩

theorem emptyMap {w : World} {h : Heap} {d : Addr} (e : h.get? d = some emptyDict) : h.MapOf (strKind P0 w) d (fun _ => none) :=
  ⟨_, #[], 0, e, ⟨rfl, rfl, rfl⟩, rfl, fun e h => by simp at h, fun k => by simp [findBy]⟩

theorem IsTag.sub {S T : List (Addr × Obj)} {r c v : Value} (h : IsTag S r c v) (k : ∀ p ∈ S, p ∈ T) : IsTag T r c v := let ⟨a, dx, e, m⟩ := h; ⟨a, dx, e, k _ m⟩
section
variable {w : World} {A : Around} {E : Value → Shared → Prop} {s₀ s s' : Shared} {env : Env} {ow : Ow} {m cm : Str → Option Value} {S : List (Addr × Obj)} {x dx d : Addr} {tk : Tok}

theorem xd_data {expr : Bool} {Q : Value → Shared → Prop} (ok : Ok w s.heap) (hx : s.heap.get? x = some (instObj 494 dx)) (hdx : s.heap.get? dx = some (dict1 w "data" tk (.ref d))) (h : Q (.ref d) { s with toks := s.toks + 1 }) : wpAny (model P0 w) A (getAttr (.ref x) "data" expr) Q E s := by
  have I : InstAt s.heap x (instObj 494 dx) 494 (some (dict1 w "data" tk (.ref d))) := ⟨hx, rfl, rfl, hdx⟩
  exact get_value ok.K I (by kernel_rfl) (by kernel_rfl) rfl h

theorem xadd_spec {dd : Nat} {t : Addr} {ol : Obj} {items : Array Value} {k : Nat} {B : List (Addr × Obj)} {r0 c0 : Value} {app : Str} {ta : Tok} (ok : Ok w s.heap) (hB : HS B s.heap) (hA : AO (dd + 40) A) (hd : dd ≤ 60) (h4 : x ∉ T4 ∧ dx ∉ T4 ∧ d ∉ T4) (hX : XD w s.heap x dx d tk emptyDict)
    (hm : (t, ol) ∈ B) (hseq : SeqO ol items k) (hsz : items.size ≤ 100000) (hv : ∀ (j : Nat) (r : Value), items[j]? = some r → ∃ c tc v, IsTag B r (.int c tc) v ∧ c ∈ validNs) (h0 : items[0]? = some r0) (hr0 : IsTag B r0 c0 (.str app ta)) :
    wpAny (model P0 w) A (call (.ref 435) [.ref x, .ref t]) (fun v s' => v = .none ∧ ∃ s₁ t' dx' k', Bx w s s₁ ∧ HS [(t', listInst 335 dx' items k')] s₁.heap ∧ s₁.heap.get? d = some emptyDict ∧ s'.gens = s₁.gens ∧ s'.os = s₁.os ∧ s'.drawn = s₁.drawn ∧ Heap.SameBut d s₁.heap s'.heap ∧ s'.heap.MapOf (strKind P0 w) d (fun y => if y = app then some (.ref t') else none)) E s := by
  obtain ⟨oc, od, fd, sl, hlook, F, hclo, hb⟩ := fnX_add w
  refine wpAny_call (codeAny_mono (callQ (E := fun _ _ => False) (Q := fun v s' => v = .none ∧ ∃ s₁ t' dx' k', Bx w s s₁ ∧ HS [(t', listInst 335 dx' items k')] s₁.heap ∧ s₁.heap.get? d = some emptyDict ∧ s'.gens = s₁.gens ∧ s'.os = s₁.os ∧ s'.drawn = s₁.drawn ∧ Heap.SameBut d s₁.heap s'.heap ∧ s'.heap.MapOf (strKind P0 w) d (fun y => if y = app then some (.ref t') else none))
    (D := [(x, instObj 494 dx), (dx, dict1 w "data" tk (.ref d)), (d, emptyDict)]) (d := dd + 39) ok hB ?_ hA hlook F hclo (BindsTo.of_eq (hb _ _)) (by rfl) ?_) ?_)
  · intro p hp
    simp only [List.mem_cons, List.not_mem_nil, or_false] at hp
    rcases hp with rfl | rfl | rfl
    · exact ⟨hX.hx, h4.1⟩
    · exact ⟨hX.hdx, h4.2.1⟩
    · exact ⟨hX.hd, h4.2.2⟩
  · intro env s₁ L m cm I hc hcode hq hA' hm' hcm X
    have hm1 := (hm' "self" (by rfl)).trans (show _ = some (Value.ref x) from rfl)
    have hm2 := (hm' "tags" (by rfl)).trans (show _ = some (Value.ref t) from rfl)
    iterate 4 (walk_at "m1")
    refine callWith_K X.ok.K (by kernel_rfl) ?_
    refine spliced_more ?_
    walk_at "m1"
    refine spliced_none ⟨X.ok.K, ?_⟩
    obtain ⟨ht, ht4, _⟩ := X.has _ hm
    refine wpAny_mono (Tags_T (d := dd) X.ok ht hseq ht4 hsz (hA'.le (by omega)) (by omega)) (fun v s₂ hR => ?_) fun _ _ e => e
    obtain ⟨S', hR', X₂⟩ := X.call hR
    obtain ⟨t', dx', k', rfl, rfl⟩ := hR'
    walk_at "m1"
    rename_i s₃ X₃
    show wpAny _ _ (execs _ env) _ _ _
    walk_at "m1"
    refine wpAny_If (wpAny_isTrue_value ?_)
    refine Call_ ?_
    walk_at "m1"
    refine PyProof.Rows.callWith_builtin1 ?_
    refine spliced_more ?_
    walk_at "m1"
    refine spliced_none ?_
    have hT' : SeqO (listInst 335 dx' items k') items k' := ⟨.inl rfl, rfl⟩
    obtain ⟨ht', ht4', _⟩ := X₃.has _ (.head _)
    show wpAny _ _ (call (.builtin "len") [.ref t']) _ _ _
    refine len_T X₃.ok ht' hT' (by omega) fun t₁ => ?_
    have X₄ := X₃.tok (s₃.toks + 1 + 1)
    refine PyProof.Rows.truthy_int ?_
    have hpos : 0 < items.size := by
      rcases Nat.lt_or_ge 0 items.size with q | q
      · exact q
      · rw [Array.getElem?_eq_none q] at h0; cases h0
    rw [if_pos (by simp; intro q; subst q; exact absurd hpos (by decide))]
    walk_at "m1"
    walk_at "m1"
    refine Attribute_any_ ?_
    walk_at "m1"
    walk_at "m1"
    walk_at "m1"
    rename_i t₂ s₅ X₅
    obtain ⟨ht5, _, _⟩ := X₅.has _ (.head _)
    refine tail_T (ops := [.ref t', .int 0 t₂]) X₅.ok ht5 hT' (item_T X₅.ok ht5 hT' (by decide) (by decide) h0 ?_) (by rfl) (by intro _; rfl)
    refine tag_value0 (d := dd) X₅.ok X₅.has (hr0.sub fun p h => .tail _ h) (hA'.le (by omega)) (by rfl) fun s₆ r₆ => ?_
    have X₆ := X₅.step r₆.ok r₆.kt r₆.os r₆.ge
    walk_at "m1"
    rename_i s₇ X₇
    show wpAny _ _ (execs _ env) _ _ _
    walk_at "m1"
    refine wpAny_If (wpAny_isTrue_value ?_)
    refine Call_ ?_
    walk_at "m1"
    refine callWith_K X₇.ok.K (by kernel_rfl) ?_
    refine spliced_more ?_
    walk_at "m1"
    refine spliced_none ⟨X₇.ok.K, ?_⟩
    have hVT : VT ([(t', listInst 335 dx' items k')] ++ B) t' := ⟨_, items, k', .head _, hT', hsz, fun j r e => let ⟨c, tc, v, h1, h2⟩ := hv j r e; ⟨c, tc, v, h1.sub fun p h => .tail _ h, h2⟩⟩
    refine wpAny_mono (hv_spec (d := dd) X₇.ok X₇.has (hA'.le (by omega)) (by omega) hVT) (fun v s₈ r₈ => ?_) fun _ _ e => e
    obtain ⟨_, _, rfl⟩ := r₈.has
    have X₈ := X₇.step r₈.ok r₈.kt r₈.os r₈.ge
    refine wpAny_truthy_bool ?_
    rw [if_pos rfl]
    walk_at "m1"
    refine wpAny_Assign_Subscript ?_
    walk_at "m1"
    refine Attribute_name ?_
    walk_at "m1"
    have e1 := X₈.dd _ (.head _)
    have e2 := X₈.dd _ (.tail _ (.head _))
    have e3 := X₈.dd _ (.tail _ (.tail _ (.head _)))
    refine xd_data X₈.ok e1.1 e2.1 ?_
    have X₉ := X₈.tok (s₈.toks + 1)
    walk_at "m1"
    refine wpAny_setItem_of (knd := strKind P0 w) (k := app) (f := fun _ => none) (show Value.isStrOf app (.str app ta) = true by simp [Value.isStrOf]) (emptyMap e3.1) (fun h' hm' hs' => ?_) ?_
    · dsimp only
      walk_at "m1"
      dsimp only
      walk_at "m1"
      dsimp only
      walk_at "m1"
      refine ⟨rfl, s₈, t', dx', k', X₈.bx, ?_, e3.1, rfl, rfl, rfl, hs', ?_⟩
      · exact (HS.nil (h := s₈.heap)).cons (X₈.has _ (.head _)).1 (X₈.has _ (.head _)).2.1 rfl
      · exact hm'
    · intro o es ep h1 h2
      rw [e3.1] at h1
      cases h1
      cases h2
      exact Nat.zero_le _
  · rintro r s' ⟨v, rfl, hq⟩
    exact hq
end
end

section
open Builtin Builtin.ObjectAttr
theorem HS.news {S : List (Addr × Obj)} {h : Heap} (x : HS S h) : News { objs := #[] } h.objs.size h S := fun p hp =>
  ⟨(x p hp).1, fun q => by have := Heap.lt_size (x p hp).1; rw [q] at this; exact absurd this (Nat.lt_irrefl _), Heap.get?_none_of_le (Nat.zero_le _)⟩

section
variable {w : World} {A : Around} {E : Value → Shared → Prop} {s₀ s s' : Shared} {env : Env} {ow : Ow} {m cm : Str → Option Value} {S : List (Addr × Obj)} {Q : Value → Shared → Prop} {dd : Nat}

theorem eqv_dat {u v : Value} {d e : Dat} (hS : HS S s.heap) (hu : DatIn S u d) (hv : DatIn S v e) (hd : kqdOk 8 d = true) (he : kqdOk 8 e = true) (hA : AO (dd + 1) A) (h : ∀ b, (b = true ↔ d = e) → Q (.bool b) s) : wpAny (model P0 w) A (compareOp .Eq u v) Q E s := by
  obtain ⟨as, ra⟩ := kqd_in hS.news 8 hu hd
  obtain ⟨bs, rb⟩ := kqd_in hS.news 8 hv he
  have la := kqd_lay 8 d hd
  have lb := kqd_lay 8 e he
  refine eq_dataH ra rb ?_ ?_ (by have := hA.u; show A.units + 64 < 9900; omega) (h _ (kqd_eqv 8 d e 8 hd he))
  · unfold SeqAt.shaped; rw [la.1, Bool.true_and]; exact decide_eq_true (Nat.le_trans la.2 (by decide))
  · unfold SeqAt.shaped; rw [lb.1, Bool.true_and]; exact decide_eq_true (Nat.le_trans lb.2 (by decide))
theorem nev_dat {u v : Value} {d e : Dat} (hS : HS S s.heap) (hu : DatIn S u d) (hv : DatIn S v e) (hd : kqdOk 8 d = true) (he : kqdOk 8 e = true) (hA : AO (dd + 1) A) (h : ∀ b, (b = true ↔ d = e) → Q (.bool (!b)) s) : wpAny (model P0 w) A (compareOp .NotEq u v) Q E s := by
  obtain ⟨as, ra⟩ := kqd_in hS.news 8 hu hd
  obtain ⟨bs, rb⟩ := kqd_in hS.news 8 hv he
  have la := kqd_lay 8 d hd
  have lb := kqd_lay 8 e he
  refine ne_dataH ra rb ?_ ?_ (by have := hA.u; show A.units + 64 < 9900; omega) (h _ (kqd_eqv 8 d e 8 hd he))
  · unfold SeqAt.shaped; rw [la.1, Bool.true_and]; exact decide_eq_true (Nat.le_trans la.2 (by decide))
  · unfold SeqAt.shaped; rw [lb.1, Bool.true_and]; exact decide_eq_true (Nat.le_trans lb.2 (by decide))

abbrev tagEqD : Stmt := subS (topS 8) 8
theorem fnTagEq (w : World) : ∃ oc od fd sl, (KF w).lookup 125 = some ⟨oc, od, .func fd, sl⟩ ∧ FnOk w fd (bodyOf tagEqD) (namesOf tagEqD) false ∧ fd.closure = [] ∧ ∀ a b, bindArgs fd ⟨[a, b], []⟩ = (pure [(("self" : Str), a), (("other" : Str), b)] : Sem (List (Str × Value))) :=
  ⟨_, _, _, _, rfl, ⟨by kernel_rfl, by kernel_rfl, by kernel_rfl, by kernel_rfl, by kernel_rfl, by kernel_rfl, by kernel_rfl, by kernel_rfl⟩, by kernel_rfl, fun a b => by kernel_rfl⟩

theorem tag_slot0 {c v r : Value} {expr : Bool} {Q : Value → Shared → Prop} (ok : Ok w s.heap) (hS : HS S s.heap) (hr : IsTag S r c v) (hA : AO (dd + 1) A) (hc : handedIn c = true) (h : Q c { s with toks := s.toks + 1 }) : wpAny (model P0 w) A (getAttr r "_code" expr) Q E s := by
  obtain ⟨a, dx, rfl, hm⟩ := hr
  obtain ⟨ha', _, _⟩ := hS _ hm
  refine get_data ok.K ha' rfl (by kernel_rfl) (by kernel_rfl) (a := .ref 151) (g := .builtin "member_descriptor.__get__") (by kernel_rfl) (by kernel_rfl) (by kernel_rfl) ?_
  refine wpAny_call (slotget0 (s := { s with toks := s.toks + 1 }) ok.K ha' rfl (p := 151) (i := 0) (by kernel_rfl) rfl ?_)
  exact handed_str hc h

theorem tag_eq {r : Value} {c c' : Int} {tc tc' : Tok} {y y' : Str} {ty ty' : Tok} {tu : Addr} {k : Nat} (ok : Ok w s.heap) (hS : HS S s.heap) (hr : IsTag S r (.int c tc) (.str y ty)) (ht : (tu, ({ cls := .type "tuple", data := .seq #[.int c' tc', .str y' ty'] k } : Obj)) ∈ S) (hA : AO (dd + 20) A) (hne : c ≠ c') (ho : PyData.strOk y = true ∧ PyData.strOk y' = true) :
    wpAny (model P0 w) A (call (.ref 125) [r, .ref tu]) (Ret w s (fun _ v => v = .bool false)) E s := by
  obtain ⟨oc, od, fd, sl, hlook, F, hclo, hb⟩ := fnTagEq w
  refine callF ok hS (d := dd + 19) hA hlook F hclo (BindsTo.of_eq (hb _ _)) (by rfl) ?_
  intro env s₁ L m cm I hc hcode hq hA' hm hcm X
  have hm1 := (hm "self" (by rfl)).trans (show _ = some r from rfl)
  have hm2 := (hm "other" (by rfl)).trans (show _ = some (Value.ref tu) from rfl)
  iterate 5 (walk_at "m1")
  refine Attribute_name ?_
  walk_at "m1"
  refine tag_slot0 (dd := dd) X.ok X.has hr (hA'.le (by omega)) rfl ?_
  have X₂ := X.tok (s₁.toks + 1)
  walk_at "m1"
  refine Attribute_name ?_
  walk_at "m1"
  refine tag_value0 (d := dd) X₂.ok X₂.has hr (hA'.le (by omega)) rfl fun s₃ r₃ => ?_
  have X₃ := X₂.step r₃.ok r₃.kt r₃.os r₃.ge
  refine spliced_none ?_
  walk_at "m1"
  rename_i a s₄ X₄
  walk_at "m1"
  have ho1 := ho.1
  have ho2 := ho.2
  refine eqv_dat (dd := dd) (d := .tuple [.int c, .str y]) (e := .tuple [.int c', .str y']) X₄.has (.tuple (vs := [.int c tc, .str y ty]) (n := 0) (.head _) (.cons (.int _ _) (.cons (.str _ _) .nil))) (.tuple (vs := [.int c' tc', .str y' ty']) (.tail _ ht) (.cons (.int _ _) (.cons (.str _ _) .nil)))
    (by simp [kqdOk, ho1]) (by simp [kqdOk, ho2]) (hA'.le (by omega)) fun b hb => ?_
  have : b = false := by
    rw [Bool.eq_false_iff]
    intro q
    have := hb.mp q
    simp only [Dat.tuple.injEq, List.cons.injEq, Dat.int.injEq] at this
    exact hne this.1
  subst this
  dsimp only
  exact X₄.ret rfl

theorem bound_call {a : Addr} {f : Value} {name : Str} {args : List Value} {Q : Option Value → Shared → Prop} (L : Looks (model P0 w) s.heap (specialOf (.ref a) name) (some f)) (hb : Looks (model P0 w) s.heap (bindSpecial f (.ref a)) (f, [.ref a]))
    (h : wpAny (model P0 w) A (call f (.ref a :: args)) (fun v => Q (some v)) E s) : wpAny (model P0 w) A (callSpecialIfBound? (.ref a) name args) Q E s := by
  unfold callSpecialIfBound?
  refine wpAny_holding ?_
  refine wpAny_bind ?_
  unfold bindSpecialIfBound?
  refine wpAny_bind (L.here ?_)
  refine wpAny_bind (wpAny_askSetting ?_)
  have fin : wpAny (model P0 w) A (call f ([.ref a] ++ args) >>= fun v => pure (some v)) Q E s := wpAny_bind (wpAny_mono h (fun _ _ q => wpAny_pure q) fun _ _ e => e)
  split
  · exact wpAny_bind (hb.here (wpAny_pure fin))
  · exact wpAny_tryCatch (wpAny_bind (hb.here (wpAny_pure fin)))

theorem one_bind (self : Value) : bindSpecial (.builtin "object.__ne__") self = pure (.builtin "object.__ne__", [self]) :=
  (Slot.of (T := "object") (name := "__ne__") (owner := "object") (n := "__ne__") (by rw [typeLookup_type, builtinLookup_eq_fast]; kernel_rfl) (by decide +kernel) (by decide +kernel) (by decide +kernel)
    (.inl (by decide +kernel)) (by rw [isSubtype_type]; kernel_rfl)).bind self
theorem one_entry : entryFor table "object.__ne__" = some Builtin.«object.__ne__» := entryFor_of_tree (by kernel_rfl)
theorem one_args (a b : Value) : argsOk "object.__ne__" ⟨[a, b], []⟩ := by unfold argsOk; kernel_rfl

theorem tag_ne {r : Value} {c c' : Int} {tc tc' : Tok} {y y' : Str} {ty ty' : Tok} {tu : Addr} {k : Nat} (ok : Ok w s.heap) (hS : HS S s.heap) (hr : IsTag S r (.int c tc) (.str y ty)) (ht : (tu, ({ cls := .type "tuple", data := .seq #[.int c' tc', .str y' ty'] k } : Obj)) ∈ S) (hA : AO (dd + 24) A) (hne : c ≠ c') (ho : PyData.strOk y = true ∧ PyData.strOk y' = true)
    (h : ∀ s', Bx w s s' → Q (.bool true) s') : wpAny (model P0 w) A (compareOp .NotEq r (.ref tu)) Q E s := by
  have hr' := hr
  obtain ⟨a, dx, rfl, hm⟩ := hr
  obtain ⟨ha, _, _⟩ := hS _ hm
  obtain ⟨htu, _, _⟩ := hS _ ht
  have L0 : Looks (model P0 w) s.heap (typeOf (.ref a)) (.ref 150) := (Looks.ld ha).andThen .now
  have L1 : Looks (model P0 w) s.heap (typeOf (.ref tu)) (.type "tuple") := (Looks.ld htu).andThen .now
  have L2 : Looks (model P0 w) s.heap (isSubtype (.type "tuple") (.ref 150)) false := looks_subIn ok.K (by kernel_rfl)
  show wpAny _ _ (richCompare .NotEq (.ref a) (.ref tu)) _ _ _
  unfold richCompare
  refine wpAny_holding ?_
  refine wpAny_bind (wpAny_cRoomFor hA.units ?_)
  dsimp only [oneThing?, cmpInfo]
  refine wpAny_bind (L0.here (wpAny_bind (L1.here ?_)))
  rw [if_pos (by decide)]
  refine wpAny_bind (L2.here ?_)
  rw [if_neg (by decide)]
  have Lne : Looks (model P0 w) s.heap (specialOf (.ref a) "__ne__") (some (.builtin "object.__ne__")) := L0.andThen (looks_findIn ok.K (by kernel_rfl))
  have Leq : Looks (model P0 w) s.heap (specialOf (.ref a) "__eq__") (some (.ref 125)) := L0.andThen (looks_findIn ok.K (by kernel_rfl))
  have Lob : Looks (model P0 w) s.heap (isInstance (.ref a) (.type "object")) true := L0.andThen (looks_mroIn ok.K (by kernel_rfl : mroIn (KF w) 150 (.type "object") = some true))
  unfold tryCompare
  refine wpAny_bind (wpAny_bind (bound_call Lne (Looks.of_pure (one_bind _)) ?_))
  refine wpAny_call (codeAny_call_builtin (by decide +kernel) one_entry ?_)
  refine check_slot (i := "object.__ne__") (owner := "object") (n := "__ne__") (self := .ref a) (rest := [.ref tu]) (kw := []) (by decide +kernel) (by decide +kernel) Lob (one_args _ _) ?_
  unfold Builtin.«object.__ne__»
  refine wpAny_bind (m := slotArgs "__ne__" 1 _) (wpAny_pure ?_)
  dsimp only
  refine wpAny_bind (wpAny_cRoomFor (by have := hA.u; show A.units + 1 < 9900; omega) ?_)
  refine wpAny_bind (bound_call Leq (bind_fn ok.K _ (by kernel_rfl)) ?_)
  refine wpAny_mono (tag_eq (dd := dd) ok hS hr' ht (hA.in1.le (by omega)) hne ho) (fun v s₂ r₂ => ?_) fun _ _ e => e
  obtain ⟨_, _, rfl⟩ := r₂.has
  dsimp only
  refine wpAny_bind (wpAny_truthy_bool ?_)
  exact wpAny_pure (wpAny_pure (wpAny_pure (h _ (r₂.bx ok))))
end
end

section
abbrev xAddP : Stmt := subS (topS 18) 6
theorem fnXAdd (w : World) : ∃ oc od fd sl, (KF w).lookup 442 = some ⟨oc, od, .func fd, sl⟩ ∧ FnOk w fd (bodyOf xAddP) (namesOf xAddP) false ∧ fd.closure = [] ∧ fd.code = .ref 441 ∧ ∀ a b c, bindArgs fd ⟨[a, b, c], []⟩ = (pure [(("self" : Str), a), (("appid" : Str), b), (("tags" : Str), c)] : Sem (List (Str × Value))) :=
  ⟨_, _, _, _, rfl, ⟨by kernel_rfl, by kernel_rfl, by kernel_rfl, by kernel_rfl, by kernel_rfl, by kernel_rfl, by kernel_rfl, by kernel_rfl⟩, by kernel_rfl, by kernel_rfl, fun a b c => by kernel_rfl⟩
abbrev dxfD : Stmt := topS 9
theorem fnDxf (w : World) : ∃ oc od fd sl, (KF w).lookup 161 = some ⟨oc, od, .func fd, sl⟩ ∧ FnOk w fd (bodyOf dxfD) (namesOf dxfD) false ∧ fd.closure = [] ∧ ∀ a b, bindArgs fd ⟨[a, b], []⟩ = (pure [(("code" : Str), a), (("value" : Str), b)] : Sem (List (Str × Value))) :=
  ⟨_, _, _, _, rfl, ⟨by kernel_rfl, by kernel_rfl, by kernel_rfl, by kernel_rfl, by kernel_rfl, by kernel_rfl, by kernel_rfl, by kernel_rfl⟩, by kernel_rfl, fun a b => by kernel_rfl⟩

section
variable {w : World} {A : Around} {E : Value → Shared → Prop} {s₀ s s' b : Shared} {env cenv : Env} {ow : Ow} {m cm : Str → Option Value} {S : List (Addr × Obj)} {dd : Nat}

theorem dxf_spec {c v : Value} (ok : Ok w s.heap) (hA : AO (dd + 5) A) : wpAny (model P0 w) A (call (.ref 161) [c, v]) (Ret w s (fun S' r => ∃ a dx, r = .ref a ∧ S' = [(a, tagObj dx c v)])) E s := by
  obtain ⟨oc, od, fd, sl, hlook, F, hclo, hb⟩ := fnDxf w
  refine callF ok HS.nil (d := dd + 4) hA hlook F hclo (BindsTo.of_eq (hb _ _)) (by rfl) ?_
  intro env s₁ L m cm I hc hcode hq hA' hm hcm X
  have hm1 := (hm "code" (by rfl)).trans (show _ = some c from rfl)
  have hm2 := (hm "value" (by rfl)).trans (show _ = some v from rfl)
  iterate 4 (walk_at "m1")
  refine callWith_K X.ok.K (by kernel_rfl) ?_
  iterate 4 (walk_at "m1")
  refine spliced_none ⟨X.ok.K, ?_⟩
  refine wpAny_mono (tag_make (d := dd + 1) X.ok hA') (fun r s' hr => ?_) fun _ _ e => e
  exact Ret.pre X.bx hr

theorem own_go {I : Addr} {v : Value} {elts : List Expr} {k : Nat} {tp : Pos} {Q : Unit → Shared → Prop} (hT : s.TypeIs (.ref I) "list_iterator") (h : Q () s) : wpAny (model P0 w) A (letOwnedTupleGo (.Tuple elts k tp) (.ref I) v) Q E s := by
  obtain ⟨o, ho, hc⟩ := hT
  unfold letOwnedTupleGo
  cases v with
  | ref a =>
    refine wpAny_bind (wpAny_load ho ?_)
    rw [hc]
    cases hd : o.data with
    | fields vs => 
      dsimp only
      rw [if_neg (by simp)]
      exact wpAny_pure h
    | _ => exact wpAny_pure h
  | _ => exact wpAny_pure h

theorem asg_pair {names : List (Str × NameKind)} {xa xb : Str} {pa pb tp : Pos} {k kk : Nat} {tu : Addr} {u v : Value} {Q : Unit → Shared → Prop} (I : EnvIs env names) (hxa : names.lookup xa = some .local) (hxb : names.lookup xb = some .local) (hh : A.handled = none) (X : Fx w s₀ env ow m cm S s) (ht : s.heap.get? tu = some { cls := .type "tuple", data := .seq #[u, v] kk })
    (h : ∀ s', Fx w s₀ env ow (fun y => if y = xb then some v else if y = xa then some u else m y) cm S s' → (∀ a o, a ≠ env.locals → s.heap.get? a = some o → s'.heap.get? a = some o) → s'.gens = s.gens → Q () s') :
    wpAny (model P0 w) A (assign (.Tuple [.Name xa pa, .Name xb pb] k tp) env (.ref tu)) Q E s := by
  have nsz : s.heap.get? s.heap.objs.size = none := Heap.get?_none_of_le (Nat.le_refl _)
  refine wpAny_assign_Tuple (items := #[u, v]) hh ⟨_, ht, rfl, kk, rfl⟩ (by rfl) (by rfl) fun h₁ hx => ?_
  have hk : ∀ a o, s.heap.get? a = some o → h₁.get? a = some o := fun a o e => hx a o (fun q => by rw [q, nsz] at e; cases e) e
  have X₁ : Fx w s₀ env ow m cm S { s with heap := h₁ } := X.grow (t := s.toks) hk
  have hp : (env.scope.kind == .class || (env.scope.kind == .module && env.locals != env.globals)) = false := by rw [I.kind]; rfl
  show wpAny _ A (holding [v] (assign (.Name xa pa) env u) >>= fun _ => (holding [] (assign (.Name xb pb) env v) >>= fun _ => pure ())) _ _ _
  refine wpAny_bind (wpAny_holding (wpAny_assign_Name (wpAny_storeName_local (I.kindOf hxa) X₁.ns (fun h₂ hn₂ hs₂ => ?_) hp)))
  have X₂ := X₁.storeL (t := s.toks + 1) hn₂ hs₂
  refine wpAny_bind (wpAny_holding (wpAny_assign_Name (wpAny_storeName_local (I.kindOf hxb) X₂.ns (fun h₃ hn₃ hs₃ => ?_) hp)))
  have X₃ := X₂.storeL (t := s.toks + 1 + 1) hn₃ hs₃
  exact wpAny_pure (h _ X₃ (fun a o n e => hs₃.extBut a o n (hs₂.extBut a o n (hk a o e))) rfl)
end
end

section
open Builtin Builtin.ObjectAttr
section
variable {w : World} {A : Around} {E : Value → Shared → Prop} {s₀ s s' b : Shared} {env cenv : Env} {ow : Ow} {m cm : Str → Option Value} {S : List (Addr × Obj)} {dd : Nat} {t dx : Addr} {acc : Array Value} {k : Nat}

theorem method_ins {pl : Sem Bool} {Q : Value × List Value → Shared → Prop} (ok : Ok w s.heap) (ht : s.heap.get? t = some (listInst 335 dx acc k)) (hdx : s.heap.get? dx = some emptyDict) (h : Q (.builtin "list.insert", [.ref t]) s) : wpAny (model P0 w) A (getMethod (.ref t) "insert" pl) Q E s := by
  obtain ⟨hh, g, dr, tk, os⟩ := s
  have L0 : Looks (model P0 w) hh (typeOf (.ref t)) (.ref 335) := (Looks.ld ht).andThen .now
  have L1 : Looks (model P0 w) hh (specialOf (.ref t) "__getattribute__") (some (.builtin "list.__getattribute__")) := L0.andThen (looks_findIn ok.K (by kernel_rfl))
  have L2 : Looks (model P0 w) hh (specialOf (.ref t) "__getattr__") none := L0.andThen (looks_findIn ok.K (by kernel_rfl))
  have L3 : Looks (model P0 w) hh (specialOf (.ref t) "insert") (some (.builtin "list.insert")) := L0.andThen (looks_findIn ok.K (by kernel_rfl))
  have L4 : Looks (model P0 w) hh (typeOf (.builtin "list.insert")) (.type "method_descriptor") := Looks.of_pure (by show builtinType _ = _; rw [builtinType_eq_fast]; kernel_rfl)
  unfold getMethod
  refine wpAny_bind (L1.at ?_)
  dsimp only
  rw [if_neg (by decide +kernel)]
  refine wpAny_bind (L2.at ?_)
  rw [if_neg (by decide)]
  refine wpAny_bind (L3.at ?_)
  refine wpAny_bind (L4.at ?_)
  rw [if_neg (by decide)]
  refine wpAny_bind (wpAny_loadPart ht ?_)
  dsimp only
  refine wpAny_bind (wpAny_bind (wpAny_loadPart hdx ?_))
  rw [nsLook_of (name := "insert") (o := emptyDict) (r := none) (by rfl)]
  refine wpAny_pure ?_
  rw [if_neg (by decide)]
  exact wpAny_bind (wpAny_rule (wpAny_pure h))

theorem ins_T {x : Value} {ti : Tok} {Q : Value → Shared → Prop} (ok : Ok w s.heap) (ht : s.heap.get? t = some (listInst 335 dx acc k)) (hz : acc.size ≤ 100000)
    (h : ∀ h' k', h'.get? t = some (listInst 335 dx (#[x] ++ acc) k') → Heap.ExtBut t s.heap h' → Q .none { s with heap := h' }) : wpAny (model P0 w) A (call (.builtin "list.insert") [.ref t, .int 0 ti, x]) Q E s := by
  have hT : SeqO (listInst 335 dx acc k) acc k := ⟨.inl rfl, rfl⟩
  refine call_T ok ht hT F.slot_list_insert.plain F.entry_list_insert (by decide +kernel) (n := "insert") (by decide +kernel) (F.args_list_insert_3 _ _ _) ?_
  unfold Builtin.«list.insert»
  refine wpAny_bind (m := selfAndSome "list.insert" "insert" 2 2 _) (wpAny_pure ?_)
  dsimp only
  refine wpAny_bind (m := asIndex _) (wpAny_pure (a := (0 : Int)) ?_)
  rw [if_neg (by decide)]
  show wpAny _ _ (updateSeq t _ >>= fun _ => ret .none) _ _ _
  refine wpAny_bind (wpAny_updateSeq ht rfl ?_ ?_ ?_)
  · have hu := Heap.get?_update_self (Obj.mapSeq (fun xs => (xs.extract 0 (if (0 : Int) < 0 then ((0 : Int) + xs.size).toNat else min (0 : Int).toNat xs.size)).push x ++ xs.extract (if (0 : Int) < 0 then ((0 : Int) + xs.size).toNat else min (0 : Int).toNat xs.size) xs.size)) ht rfl
    have e2 : ∀ (ys : Array Value) (n : Nat), ys = #[x] ++ acc → ∃ k', ({ cls := .ref 335, dict := some dx, data := .seq ys n, slots := #[] } : Obj) = listInst 335 dx (#[x] ++ acc) k' := fun ys n q => ⟨n, by rw [q]⟩
    obtain ⟨k', hk'⟩ := e2 ((acc.extract 0 (if (0 : Int) < 0 then ((0 : Int) + acc.size).toNat else min (0 : Int).toNat acc.size)).push x ++ acc.extract (if (0 : Int) < 0 then ((0 : Int) + acc.size).toNat else min (0 : Int).toNat acc.size) acc.size) _ (by simp)
    exact wpAny_pure (h _ k' (hu.trans (congrArg some hk')) (Heap.SameBut.update ..).extBut)
  · rw [sizeLine_eq]; omega
  · rw [sizeLine_eq]; simp; omega
end
end

section
def PT (B : List (Addr × Obj)) (l : Addr) (ps : List (Int × Str)) : Prop := ∃ ol, ∃ items : Array Value, ∃ k, (l, ol) ∈ B ∧ SeqO ol items k ∧ items.size = ps.length ∧
  ∀ (j : Nat) (r : Value), items[j]? = some r → ∃ a tc ty kk p, (ps[j]? : Option (Int × Str)) = some p ∧ r = .ref a ∧ (a, ({ cls := .type "tuple", data := .seq #[.int p.1 tc, .str p.2 ty] kk } : Obj)) ∈ B
def TP (S : List (Addr × Obj)) (t : Addr) (ps : List (Int × Str)) : Prop := ∃ ol, ∃ items : Array Value, ∃ k, (t, ol) ∈ S ∧ SeqO ol items k ∧ items.size = ps.length ∧
  ∀ (j : Nat) (r : Value), items[j]? = some r → ∃ p tc ty, (ps[j]? : Option (Int × Str)) = some p ∧ IsTag S r (.int p.1 tc) (.str p.2 ty)
def tagP (ps : List (Int × Str)) : Nat → List (Addr × Obj) → Value → Prop := fun i T y => ∃ a dx p tc ty, (ps[i]? : Option (Int × Str)) = some p ∧ y = .ref a ∧ T = [(a, tagObj dx (.int p.1 tc) (.str p.2 ty))]
theorem tagP_cls {ps : List (Int × Str)} {i : Nat} {T : List (Addr × Obj)} {y : Value} (h : tagP ps i T y) {cl : Value} (hc : Value.ref 150 ≠ cl) : ∀ p ∈ T, p.2.cls ≠ cl := by
  obtain ⟨a, dx, p, tc, ty, _, _, rfl⟩ := h
  intro q hq
  rw [List.mem_singleton.mp hq]
  exact hc
theorem interactive_fn {env : Env} (h : env.scope.kind = .function) : interactive env = false := by unfold interactive; rw [h]; rfl

section
variable {w : World} {A : Around} {E : Value → Shared → Prop} {s₀ s s' b : Shared} {env cenv : Env} {ow : Ow} {m cm : Str → Option Value} {S : List (Addr × Obj)} {dd : Nat} {x dx d : Addr} {tk : Tok}

set_option maxHeartbeats 1000000 in
theorem add_spec {l : Addr} {ps : List (Int × Str)} {B : List (Addr × Obj)} {app : Str} {ta : Tok} (ok : Ok w s.heap) (hB : HS B s.heap) (hA : AO (dd + 60) A) (hd : dd ≤ 40) (h4 : x ∉ T4 ∧ dx ∉ T4 ∧ d ∉ T4) (hX : XD w s.heap x dx d tk emptyDict)
    (hP : PT B l ps) (hsz : ps.length ≤ 50000) (c0 : Int) (y0 : Str) (rest : List (Int × Str)) (hps : ps = (c0, y0) :: rest) (hc0 : c0 ≠ 1001) (hv : ∀ p ∈ ps, p.1 ∈ validNs) (ho : PyData.strOk y0 = true ∧ PyData.strOk app = true) :
    wpAny (model P0 w) A (call (.ref 442) [.ref x, .str app ta, .ref l]) (fun v s' => v = .none ∧ ∃ s₁ t' S', Bx w s s₁ ∧ HS S' s₁.heap ∧ TP S' t' ((1001, app) :: ps) ∧ s₁.heap.get? d = some emptyDict ∧ s'.gens = s₁.gens ∧ s'.os = s₁.os ∧ s'.drawn = s₁.drawn ∧ Heap.SameBut d s₁.heap s'.heap ∧ s'.heap.MapOf (strKind P0 w) d (fun y => if y = app then some (.ref t') else none)) E s := by
  obtain ⟨oc, od, fd, sl, hlook, F, hclo, hcd, hb⟩ := fnXAdd w
  refine wpAny_call (codeAny_mono (callQ (E := fun _ _ => False) (Q := fun v s' => v = .none ∧ ∃ s₁ t' S', Bx w s s₁ ∧ HS S' s₁.heap ∧ TP S' t' ((1001, app) :: ps) ∧ s₁.heap.get? d = some emptyDict ∧ s'.gens = s₁.gens ∧ s'.os = s₁.os ∧ s'.drawn = s₁.drawn ∧ Heap.SameBut d s₁.heap s'.heap ∧ s'.heap.MapOf (strKind P0 w) d (fun y => if y = app then some (.ref t') else none))
    (D := [(x, instObj 494 dx), (dx, dict1 w "data" tk (.ref d)), (d, emptyDict)]) (d := dd + 59) ok hB ?_ hA hlook F hclo (BindsTo.of_eq (hb _ _ _)) (by rfl) ?_) ?_)
  · intro p hp
    simp only [List.mem_cons, List.not_mem_nil, or_false] at hp
    rcases hp with rfl | rfl | rfl
    · exact ⟨hX.hx, h4.1⟩
    · exact ⟨hX.hdx, h4.2.1⟩
    · exact ⟨hX.hd, h4.2.2⟩
  · intro env s₁ L m cm I hc hcode hq hA' hm' hcm X
    have hm1 := (hm' "self" (by rfl)).trans (show _ = some (Value.ref x) from rfl)
    have hm2 := (hm' "appid" (by rfl)).trans (show _ = some (Value.str app ta) from rfl)
    have hm3 := (hm' "tags" (by rfl)).trans (show _ = some (Value.ref l) from rfl)
    obtain ⟨ol, items, k, hol, hseq, hsize, hitems⟩ := hP
    iterate 4 (walk_at "m1")
    refine callWith_K X.ok.K (by kernel_rfl) ?_
    refine spliced_more ?_
    refine gx_eval (cl := []) (c := 441) (P := 437) (by rfl) (hcode.trans hcd) (by decide) (fun e => absurd e (by decide)) I.glob hA'.room (by rfl) (by decide) (by rfl) (by rfl) (by intro _; rfl) ?_
    walk_at "m1"
    obtain ⟨hol', hol4, _⟩ := X.has _ hol
    refine iter_T0 X.ok hol' hseq ?_
    have X₃ : Bx w s₁ { s₁ with heap := s₁.heap.push { cls := .type "list_iterator", data := .fields #[.ref l, .int 0 0] } } := (Bx.self X.ok).grow (t := s₁.toks) fun _ _ e => Heap.get?_push_of_some _ e
    refine ⟨s₁, _, _, items.size, dd + 10, (fun i T v => T = [] ∧ items[i]? = some v), tagP ps, (fun _ => none), B, (fun i T v m => ∃ p tc ty, (ps[i]? : Option (Int × Str)) = some p ∧ m "code" = some (.int p.1 tc) ∧ m "value" = some (.str p.2 ty)), rfl,
      X₃, Ready.list X.ok hol' hseq.data hol4 (by omega), by omega, (fun n c e => by cases e), (fun p h => by cases h), .nil, X.has, ?_, ?_, ?_⟩
    · intro cenv Ic hcl hsc St₁ hSt A i v T s m' hA hR hT hst X
      obtain ⟨a, tc, ty, kk, p, hp, rfl, ha⟩ := hitems i v hR.2
      refine own_go (hSt _ _ hst) ?_
      refine asg_pair Ic (by rfl) (by rfl) hA.h X (X.has _ ha).1 fun s' X' hk' hg' => ?_
      exact ⟨_, X', ⟨p, tc, ty, hp, by walk_at "m.look", by walk_at "m.look"⟩, hk', hg'⟩
    · intro cenv Ic hcl hsc A i v T s m' hA hR hT hB X
      obtain ⟨p, tc, ty, hp, hb1, hb2⟩ := hB
      refine Call_ ?_
      refine nm_global Ic X (by rfl) (by decide) (v := .ref 161) (by rfl) ?_
      refine callWith_K X.ok.K (by kernel_rfl) ?_
      refine spliced_more ?_
      refine nm_local Ic X (by rfl) (by decide) hb1 ?_
      refine spliced_more ?_
      refine nm_local Ic X (by rfl) (by decide) hb2 ?_
      refine spliced_none ⟨X.ok.K, ?_⟩
      refine wpAny_mono (dxf_spec (dd := dd) X.ok (hA.le (by omega))) (fun r s' hr => hr.mono fun S' _ h => ?_) fun _ _ e => e
      obtain ⟨a, dx', rfl, rfl⟩ := h
      exact ⟨a, dx', p, tc, ty, hp, rfl, rfl⟩
    · intro a s₄ hr hb
      refine spliced_none ⟨hb.ok.K, ?_⟩
      show wpAny _ _ (call (.ref 335) [.ref a]) _ _ _
      refine wpAny_mono (Tags_genD hb hr (by omega) (hA'.le (by omega)) (fun j T v h => tagP_cls h (by decide))) (fun v s₅ hR => ?_) fun _ _ e => e
      obtain ⟨t, dxt, acc, kt, FF, rfl, hb5, hS5, hacc, hFc, hdxt, hn1, hn2⟩ := hR
      have X₅ := X.step hb5.ok hb5.kt hb5.os hb5.ge
      have X₄ := X.step hb.ok hb.kt hb.os hb.ge
      have hcells : ∀ q ∈ env.cells, False := by
        rw [hc, show cellsFrom (L + 1) (namesOf xAddP) [] = [] from rfl]
        exact fun q h => nomatch h
      have hT5 := hS5 _ (.head _)
      have hloc : ∀ a, s₄.heap.get? a = none → a ≠ env.locals := fun a e q => by
        obtain ⟨oL, es, ep, eL, _⟩ := X₄.ns
        rw [← q, e] at eL; cases eL
      have X₆ := (X₅.more (T := FF) (hS5.sub fun p h => .tail _ h)).addD (D' := [(t, listInst 335 dxt acc kt), (dxt, emptyDict)]) fun p hp => by
        simp only [List.mem_cons, List.not_mem_nil, or_false] at hp
        rcases hp with rfl | rfl
        · exact ⟨hT5.1, hT5.2.1, hloc _ hn2, fun q hq => (hcells q hq).elim⟩
        · exact ⟨hdxt, hb.ok.fresh hn1, hloc _ hn1, fun q hq => (hcells q hq).elim⟩
      walk_at "m1"
      rename_i s₇ X₇
      show wpAny _ _ (execs _ env) _ _ _
      walk_at "m1"
      refine wpAny_If (isTrue_or ?_)
      walk_at "m1"
      refine Call_ ?_
      walk_at "m1"
      refine PyProof.Rows.callWith_builtin1 ?_
      refine spliced_more ?_
      walk_at "m1"
      refine spliced_none ?_
      have hTT : SeqO (listInst 335 dxt acc kt) acc kt := ⟨.inl rfl, rfl⟩
      have hd7 := X₇.dd _ (.head _)
      have hlen : acc.size = ps.length := by rw [hacc.1, hsize]
      show wpAny _ _ (call (.builtin "len") [.ref t]) _ _ _
      refine len_T X₇.ok hd7.1 hTT (by omega) fun t₁ => ?_
      have X₈ := X₇.tok (s₇.toks + 1 + 1)
      iterate 3 (walk_at "m1")
      rename_i t₂ s₉ X₉
      have hl1 : ps.length = rest.length + 1 := by rw [hps]; rfl
      rw [if_neg (by rw [beq_iff_eq]; omega)]
      refine isTrue_or ?_
      iterate 4 (walk_at "m1")
      rename_i t₃ s₁₀ X₁₀
      have hd10 := X₁₀.dd _ (.head _)
      have h0 : acc[0]? = some (acc[0]'(by omega)) := Array.getElem?_eq_getElem (by omega)
      refine tail_T (ops := [.ref t, .int 0 t₃]) X₁₀.ok hd10.1 hTT (item_T X₁₀.ok hd10.1 hTT (by decide) (by decide) h0 ?_) (by rfl) (by intro _; rfl)
      obtain ⟨T0, hT0, a0, dx0, p0, tc0, ty0, hp0, ha0, hT0'⟩ := hacc.2 0 _ h0
      rw [hps] at hp0
      cases hp0
      rw [ha0]
      iterate 5 (walk_at "m1")
      walk_at "m1"
      walk_at "m1"
      rename_i tu s₁₁ X₁₁
      have hI0 : ∀ q, IsTag (q :: (FF ++ B)) (.ref a0) (.int c0 tc0) (.str y0 ty0) := fun q => ⟨a0, dx0, rfl, .tail _ (List.mem_append_left _ (hT0 _ (by rw [hT0']; exact .head _)))⟩
      refine tag_ne (dd := dd) (c' := 1001) X₁₁.ok X₁₁.has (hI0 _) (.head _) (hA'.le (by omega)) hc0 ho fun s₁₂ hb12 => ?_
      have X₁₂ := (X₁₁.step hb12.ok hb12.kt hb12.os hb12.ge).less (T := FF) (fun p h => .tail _ (List.mem_append_left _ h))
      walk_at "m1"
      rw [if_pos rfl]
      rw [if_pos rfl]
      walk_at "m1"
      refine wpAny_Expr_any ?_ (interactive_fn I.kind) (by rfl)
      refine MethodCall_ ?_ (by rfl)
      walk_at "m1"
      have hd12 := X₁₂.dd _ (.head _)
      refine method_ins X₁₂.ok hd12.1 (X₁₂.dd _ (.tail _ (.head _))).1 ?_
      refine PyProof.Rows.callWith_method1 ?_
      refine spliced_more ?_
      walk_at "m1"
      refine spliced_more ?_
      rename_i t₄ s₁₃ X₁₃
      refine Call_ ?_
      walk_at "m1"
      refine callWith_K X₁₃.ok.K (by kernel_rfl) ?_
      iterate 4 (walk_at "m1")
      refine spliced_none ⟨X₁₃.ok.K, ?_⟩
      refine wpAny_mono (dxf_spec (dd := dd) X₁₃.ok (hA'.le (by omega))) (fun v s₁₄ hR => ?_) fun _ _ e => e
      obtain ⟨S', ⟨an, dxn, rfl, rfl⟩, X₁₄⟩ := X₁₃.call hR
      refine spliced_none ?_
      have hd14 := X₁₄.dd _ (.head _)
      show wpAny _ _ (call (.builtin "list.insert") [.ref t, .int 0 t₄, .ref an]) _ _ _
      refine ins_T X₁₄.ok hd14.1 (by omega) fun h' k' hk' hx' => ?_
      have hxt : s.heap.get? t = none := X₄.bx.new0 hn2
      have hX0 := X₁₄.dd
      have hScls : ∀ v, ∀ p ∈ [(an, tagObj dxn v (.str app ta))] ++ FF, p.2.cls ≠ (listInst 335 dxt acc kt).cls := fun v p hp => (List.mem_append.mp hp).elim (fun h => by rw [List.mem_singleton.mp h]; show Value.ref 150 ≠ Value.ref 335; decide) (hFc p)
      have hDne : ∀ p ∈ [(dxt, emptyDict), (x, instObj 494 dx), (dx, dict1 w "data" tk (.ref d)), (d, emptyDict)], p.1 ≠ t := by
        intro p hp
        simp only [List.mem_cons, List.not_mem_nil, or_false] at hp
        rcases hp with rfl | rfl | rfl | rfl
        · intro q
          have e1 := (hX0 _ (.tail _ (.head _))).1
          rw [show (dxt, emptyDict).1 = dxt from rfl] at e1
          rw [show dxt = t from q, hd14.1] at e1
          cases e1
        · intro q; rw [← show x = t from q, hX.hx] at hxt; cases hxt
        · intro q; rw [← show dx = t from q, hX.hdx] at hxt; cases hxt
        · intro q; rw [← show d = t from q, hX.hd] at hxt; cases hxt
      have X₁₅ := X₁₄.updD (t := s₁₄.toks) hxt hDne (X₁₄.has.notAt hd14.1 (hScls _)) (.seq rfl) hk' hx'
      dsimp only
      walk_at "m1"
      dsimp only
      walk_at "m1"
      refine wpAny_Expr_any ?_ (interactive_fn I.kind) (by rfl)
      refine MethodCall_ ?_ (by rfl)
      walk_at "m1"
      have f0 := X₁₅.dd _ (.head _)
      have f2 := X₁₅.dd _ (.tail _ (.tail _ (.head _)))
      have f3 := X₁₅.dd _ (.tail _ (.tail _ (.tail _ (.head _))))
      have f4 := X₁₅.dd _ (.tail _ (.tail _ (.tail _ (.tail _ (.head _)))))
      refine method_fn X₁₅.ok.K (⟨f2.1, rfl, rfl, f3.1⟩ : InstAt _ x (instObj 494 dx) 494 (some (dict1 w "data" tk (.ref d)))) (by kernel_rfl) (by kernel_rfl) (f := 435) (by kernel_rfl) (by kernel_rfl) (by kernel_rfl) ?_
      refine callWith_K X₁₅.ok.K (by kernel_rfl) ?_
      iterate 2 (walk_at "m1")
      refine spliced_none ⟨X₁₅.ok.K, ?_⟩
      have hB2 := X₁₅.has.cons f0.1 f0.2.1 rfl
      have hItems : ∀ (j : Nat) (r : Value), (#[Value.ref an] ++ acc)[j]? = some r → (j = 0 ∧ r = .ref an) ∨ ∃ i, j = i + 1 ∧ acc[i]? = some r := by
        intro j r e
        cases j with
        | zero => rw [Array.getElem?_append_left (by exact Nat.zero_lt_one)] at e; exact .inl ⟨rfl, (Option.some.inj e).symm⟩
        | succ i => rw [Array.getElem?_append_right (by show 1 ≤ i + 1; omega)] at e; exact .inr ⟨i, rfl, e⟩
      have h00 : (#[Value.ref an] ++ acc)[0]? = some (.ref an) := by rw [Array.getElem?_append_left (by exact Nat.zero_lt_one)]; rfl
      show wpAny _ _ (call (.ref 435) [.ref x, .ref t]) _ _ _
      refine wpAny_mono (xadd_spec (dd := dd) (items := #[.ref an] ++ acc) (r0 := .ref an) X₁₅.ok hB2 (hA'.le (by omega)) (by omega) h4 ⟨f2.1, f3.1, f4.1⟩ (.head _) ⟨.inl rfl, rfl⟩ (by rw [Array.size_append]; show 1 + acc.size ≤ _; omega) ?_ h00 ⟨an, dxn, rfl, .tail _ (.head _)⟩) (fun v s₁₆ hq => ?_) fun _ _ e => e
      · intro j r e
        rcases hItems j r e with ⟨rfl, rfl⟩ | ⟨i, rfl, e'⟩
        · exact ⟨1001, _, _, ⟨an, dxn, rfl, .tail _ (.head _)⟩, by decide⟩
        · obtain ⟨T', hT', a', dx', p', tc', ty', hp', rfl, rfl⟩ := hacc.2 i _ e'
          exact ⟨p'.1, tc', _, ⟨a', dx', rfl, .tail _ (.tail _ (hT' _ (.head _)))⟩, hv _ (List.mem_of_getElem? hp')⟩
      · obtain ⟨rfl, s₁₇, t', dx', k'', hb17, hS17, hd17, g1, g2, g3, g4, g5⟩ := hq
        dsimp only
        walk_at "m1"
        refine ⟨rfl, s₁₇, t', _, X₁₅.bx.trans hb17, hS17.app (X₁₅.has.kt hb17.kt), ?_, hd17, g1, g2, g3, g4, g5⟩
        refine ⟨_, #[.ref an] ++ acc, _, .head _, ⟨.inl rfl, rfl⟩, ?_, fun j r e => ?_⟩
        · rw [Array.size_append]; show 1 + acc.size = ps.length + 1; omega
        · rcases hItems j r e with ⟨rfl, rfl⟩ | ⟨i, rfl, e'⟩
          · exact ⟨(1001, app), _, _, rfl, an, dxn, rfl, .tail _ (.head _)⟩
          · obtain ⟨T', hT', a', dx'', p', tc', ty', hp', rfl, rfl⟩ := hacc.2 i _ e'
            exact ⟨p', tc', ty', hp', a', dx'', rfl, .tail _ (.tail _ (hT' _ (.head _)))⟩
  · rintro r s' ⟨v, rfl, hq⟩
    exact hq
end
end

section
abbrev xGetD : Stmt := subS (topS 18) 7
theorem fnXGet (w : World) : ∃ oc od fd sl, (KF w).lookup 449 = some ⟨oc, od, .func fd, sl⟩ ∧ FnOk w fd (bodyOf xGetD) (namesOf xGetD) false ∧ fd.closure = [] ∧ ∀ a b, bindArgs fd ⟨[a, b], []⟩ = (pure [(("self" : Str), a), (("appid" : Str), b)] : Sem (List (Str × Value))) :=
  ⟨_, _, _, _, rfl, ⟨by kernel_rfl, by kernel_rfl, by kernel_rfl, by kernel_rfl, by kernel_rfl, by kernel_rfl, by kernel_rfl, by kernel_rfl⟩, by kernel_rfl, fun a b => by kernel_rfl⟩

section
variable {w : World} {A : Around} {E : Value → Shared → Prop} {s₀ s s' b : Shared} {env cenv : Env} {ow : Ow} {m cm : Str → Option Value} {S : List (Addr × Obj)} {dd : Nat} {x dx d : Addr} {tk : Tok}

theorem get_spec {od' : Obj} {f : Str → Option Value} {app : Str} {ta : Tok} {v : Value} (ok : Ok w s.heap) (hA : AO (dd + 20) A) (h4 : x ∉ T4 ∧ dx ∉ T4 ∧ d ∉ T4) (hsys : (d == sysModules) = false) (hX : XD w s.heap x dx d tk od') (hM : s.heap.MapOf (strKind P0 w) d f) (hf : f app = some v) :
    wpAny (model P0 w) A (call (.ref 449) [.ref x, .str app ta]) (Ret w s (fun _ r => r = v)) E s := by
  obtain ⟨oc, od, fd, sl, hlook, F, hclo, hb⟩ := fnXGet w
  refine wpAny_call (codeAny_mono (callQ (E := fun _ _ => False) (Q := Ret w s (fun _ r => r = v)) (D := [(x, instObj 494 dx), (dx, dict1 w "data" tk (.ref d)), (d, od')]) (d := dd + 19) ok HS.nil ?_ hA hlook F hclo (BindsTo.of_eq (hb _ _)) (by rfl) ?_) ?_)
  · intro p hp
    simp only [List.mem_cons, List.not_mem_nil, or_false] at hp
    rcases hp with rfl | rfl | rfl
    · exact ⟨hX.hx, h4.1⟩
    · exact ⟨hX.hdx, h4.2.1⟩
    · exact ⟨hX.hd, h4.2.2⟩
  · intro env s₁ L m cm I hc hcode hq hA' hm' hcm X
    have hm1 := (hm' "self" (by rfl)).trans (show _ = some (Value.ref x) from rfl)
    have hm2 := (hm' "appid" (by rfl)).trans (show _ = some (Value.str app ta) from rfl)
    have hMo : ∀ s : Shared, s.heap.get? d = some od' → s.heap.MapOf (strKind P0 w) d f := fun s e => by
      obtain ⟨o, es, ep, h1, r⟩ := hM
      rw [hX.hd] at h1; cases h1
      exact ⟨_, es, ep, e, r⟩
    have e1 := X.dd _ (.head _)
    have e2 := X.dd _ (.tail _ (.head _))
    have e3 := X.dd _ (.tail _ (.tail _ (.head _)))
    walk_at "m1"
    refine wpAny_If ?_
    iterate 2 (walk_at "m1")
    refine Attribute_name ?_
    walk_at "m1"
    refine xd_data X.ok e1.1 e2.1 ?_
    refine wpAny_in_of (knd := strKind P0 w) (k := app) (f := f) (show Value.isStrOf app (.str app ta) = true by simp [Value.isStrOf]) hsys (hMo _ e3.1) ?_
    have X₂ := X.tok (s₁.toks + 1 + 1)
    rw [hf]
    refine wpAny_truthy_bool ?_
    rw [if_pos (show (some v).isSome = true from rfl)]
    iterate 3 (walk_at "m1")
    refine Attribute_name ?_
    walk_at "m1"
    refine xd_data X₂.ok e1.1 e2.1 ?_
    have X₃ := X₂.tok (s₁.toks + 1 + 1 + 1)
    walk_at "m1"
    have hMM := hMo { s₁ with toks := s₁.toks + 1 + 1 + 1 } e3.1
    refine tail_any (ops := [.ref d, .str app ta]) hMM.typeIs PySem.F.slot_dict_getitem.lookup (wpAny_getItem_of (knd := strKind P0 w) (k := app) (f := f) (show Value.isStrOf app (.str app ta) = true by simp [Value.isStrOf]) hMM hf ?_) (by rfl)
    dsimp only
    exact (X₃.tok _).ret rfl
  · rintro r s' ⟨v, rfl, hq⟩
    exact hq
end
end

section
section
open PySem.AutoSeq1 (wpAny_loadPart')
theorem meets_enum_T (l : Addr) : Meets (Builtin.«enumerate.__new__» ⟨[.type "enumerate", .ref l], []⟩) (fun _ R s => (∃ (w : World) (ol : Obj) (items : Array Value) (k : Nat), Ok w s.heap ∧ s.heap.get? l = some ol ∧ SeqO ol items k) ∧
      R (.ok (.ret (.ref (s.heap.push { cls := .type "list_iterator", data := .fields #[.ref l, .int 0 0] }).objs.size)))
        { s with heap := (s.heap.push { cls := .type "list_iterator", data := .fields #[.ref l, .int 0 0] }).push { cls := .type "enumerate", data := .fields #[.none, .bool false, .ref s.heap.objs.size, rawInt 0, .none, .none] } }) :=
  .of_wp fun prog w' A R s h => by
    obtain ⟨hp, g, d, tk, os⟩ := s
    obtain ⟨⟨w, ol, items, k, ok, hl, hs⟩, h⟩ := h
    have hsub := sub_enumerate
    wp_walk using wpAny_loadPart' hl
    refine wpAny_stack_any fun st => wpAny_pure ?_
    split
    · rename_i c _ _ _ _ _
      cases (c == Value.type "enumerate")
      · wp_walk using wpAny_loadPart' hl, iter_T0 ok hl hs
        exact ⟨_, rfl, h⟩
      · wp_walk using wpAny_loadPart' hl, iter_T0 ok hl hs
        exact ⟨_, rfl, h⟩
    · wp_walk using wpAny_loadPart' hl, iter_T0 ok hl hs
      exact ⟨_, rfl, h⟩
end
section
variable {w : World} {A : Around} {E : Value → Shared → Prop} {s₀ s s' b : Shared} {t : Addr} {ol : Obj} {items : Array Value} {k n d : Nat}

theorem enum_make {Q : Value → Shared → Prop} (ok : Ok w s.heap) (ht : s.heap.get? t = some ol) (hs : SeqO ol items k)
    (h : ∀ h', IsEnum h' (s.heap.objs.size + 1) s.heap.objs.size 0 .none → h'.IsListIter s.heap.objs.size t 0 → h'.objs.size = s.heap.objs.size + 2 →
      (∀ b o, s.heap.get? b = some o → h'.get? b = some o) → Q (.ref (s.heap.objs.size + 1)) { s with heap := h' }) :
    wpAny (model P0 w) A (call (.type "enumerate") [.ref t]) Q E s := by
  refine callType_new F.called_enumerate (by decide) (F.typeCall_enumerate_1 _) (F.newCall_enumerate_1 _) (fun obj => F.args_object_init_2 obj _) F.entry_enumerate_new (meets_enum_T t) ⟨⟨w, ol, items, k, ok, ht, hs⟩, ?_⟩
  have hz : (s.heap.push { cls := .type "list_iterator", data := .fields #[.ref t, .int 0 0] }).objs.size = s.heap.objs.size + 1 := Heap.size_push ..
  show _ ∧ _
  rw [hz]
  have he : IsEnum ((s.heap.push { cls := .type "list_iterator", data := .fields #[.ref t, .int 0 0] }).push
      { cls := .type "enumerate", data := .fields #[.none, .bool false, .ref s.heap.objs.size, rawInt 0, .none, .none] }) (s.heap.objs.size + 1) s.heap.objs.size 0 .none := by
    have := Heap.get?_push_size (s.heap.push { cls := .type "list_iterator", data := .fields #[.ref t, .int 0 0] })
      (o := { cls := .type "enumerate", data := .fields #[.none, .bool false, .ref s.heap.objs.size, rawInt 0, .none, .none] }) rfl
    rw [hz] at this; exact this
  exact ⟨⟨_, he, rfl⟩, h _ he ⟨_, Heap.get?_push_of_some _ (Heap.get?_push_size _ rfl), rfl, rfl⟩ (by rw [Heap.size_push, hz]) fun b o x => Heap.get?_push_of_some _ (Heap.get?_push_of_some _ x)⟩
end
end

section
section
variable {prog : Program} {w : World} {A : Around} {E : Value → Shared → Prop} {s : Shared}

theorem nextOf_item {it l : Addr} {i k : Nat} {items : Array Value} {x : Value} {ol : Obj} {Q : Value → Shared → Prop} (hit : s.heap.IsListIter it l i)
    (hl : s.heap.get? l = some ol) (hdl : ol.data = .seq items k) (hx : items[i]? = some x)
    (hQ : ∀ h', h'.IsListIter it l (i + 1) → Heap.SameBut it s.heap h' → Q x { s with heap := h' }) :
    wpAny (model prog w) A (Builtin.SmallTypes.nextOf (.ref it)) Q E s := by
  obtain ⟨o, ho, hc, hd⟩ := id hit
  unfold Builtin.SmallTypes.nextOf
  refine wpAny_bind (wpAny_callSpecial?_slot (name := Str.ofString "__next__") hit.typeIs slot_listiter_next
    (wpAny_call_entry slot_listiter_next hit.typeIs entry_listiter_next ?_ (args_listiter_next _)))
  show wpAny _ _ (field (.ref it) 0 >>= _) _ _ s
  refine wpAny_bind (wpAny_field ho hd (x := .ref l) rfl ?_)
  show wpAny _ _ (if (Value.ref l == Value.none) = true then _ else _) _ _ s
  rw [if_neg (show ¬ ((Value.ref l == Value.none) = true) from Bool.false_ne_true)]
  show wpAny _ _ (field (.ref it) 1 >>= _) _ _ s
  refine wpAny_bind (wpAny_field ho hd (x := .int i 0) rfl ?_)
  show wpAny _ _ (seqItems? (.ref l) >>= _) _ _ s
  refine wpAny_bind (wpAny_seqItems hl hdl ?_)
  simp only [Int.toNat_natCast, hx]
  refine wpAny_bind (wpAny_setField ho hd (by simp) (wpAny_pure ⟨x, rfl, wpAny_pure (hQ _ ?_ (Heap.SameBut.update ..))⟩))
  exact ⟨_, Heap.get?_update_self _ ho (Obj.isFreed_of_fields (Obj.data_mapFields hd _)), (Obj.cls_mapFields ..).trans hc, by
    rw [Obj.data_mapFields hd]; simp [rawInt]⟩

theorem enum_item {e it l : Addr} {i k : Nat} {items : Array Value} {ol : Obj} {x old : Value} {Q : Value → Shared → Prop}
    (he : IsEnum s.heap e it i old) (hit : s.heap.IsListIter it l i) (hl : s.heap.get? l = some ol) (hdl : ol.data = .seq items k) (hx : items[i]? = some x) (hne : e ≠ it)
    (hQ : ∀ h₁ h', IsEnumOut h' e it ((i : Int) + 1) x s.heap.objs.size → h'.IsListIter it l (i + 1) →
      h'.get? s.heap.objs.size = some { cls := .type "tuple", data := .seq #[.int i s.toks, x] } → h'.objs.size = s.heap.objs.size + 1 →
      Heap.SameBut it s.heap h₁ → h₁.IsListIter it l (i + 1) → Heap.ExtBut e h₁ h' → Q (.ref s.heap.objs.size) { s with heap := h', toks := s.toks + 1 }) :
    wpAny (model prog w) A (Builtin.«enumerate.__next__» ⟨[.ref e], []⟩) (fun fin s' => ∃ v, fin = .done (.ret v) ∧ Q v s') E s := by
  obtain ⟨hp, g, d, tk, os⟩ := s
  show wpAny _ _ (field (.ref e) 2 >>= _) _ _ _
  refine wpAny_bind (wpAny_field he rfl (x := .ref it) rfl ?_)
  refine wpAny_bind (nextOf_item hit hl hdl hx fun h₁ hit₁ hs₁ => ?_)
  replace hs₁ : Heap.SameBut it hp h₁ := hs₁
  have he₁ : IsEnum h₁ e it i old := (hs₁.2 e hne).trans he
  show wpAny _ _ (field (.ref e) 3 >>= _) _ _ ⟨h₁, g, d, tk, os⟩
  refine wpAny_bind (wpAny_field he₁ rfl (x := rawInt i) rfl ?_)
  show wpAny _ _ (field (.ref e) 4 >>= _) _ _ ⟨h₁, g, d, tk, os⟩
  refine wpAny_bind (wpAny_field he₁ rfl (x := .none) rfl ?_)
  show wpAny _ _ (mkInt i >>= _) _ _ ⟨h₁, g, d, tk, os⟩
  refine wpAny_bind (wpAny_mkInt ?_)
  show wpAny _ _ (setField (.ref e) 3 (rawInt ((i : Int) + 1)) >>= _) _ _ ⟨h₁, g, d, tk + 1, os⟩
  refine wpAny_bind (wpAny_setField_rec he₁ (by simp) fun h₂ he₂ hs₂ => ?_)
  replace hs₂ : Heap.SameBut e h₁ h₂ := hs₂
  replace he₂ : IsEnum h₂ e it ((i : Int) + 1) old := he₂
  show wpAny _ _ (setField (.ref e) 4 .none >>= _) _ _ ⟨h₂, g, d, tk + 1, os⟩
  refine wpAny_bind (wpAny_setField_rec he₂ (by simp) fun h₃ he₃ hs₃ => ?_)
  replace hs₃ : Heap.SameBut e h₂ h₃ := hs₃
  replace he₃ : IsEnum h₃ e it ((i : Int) + 1) old := he₃
  show wpAny _ _ (newTuple [.int i tk, x] >>= _) _ _ ⟨h₃, g, d, tk + 1, os⟩
  refine wpAny_bind (wpAny_newTuple ?_)
  have he₄ : IsEnum (h₃.push { cls := .type "tuple", data := .seq #[.int i tk, x] }) e it ((i : Int) + 1) old := Heap.get?_push_of_some _ he₃
  generalize hh₄ : h₃.push { cls := .type "tuple", data := .seq #[.int i tk, x] } = h₄ at he₄
  have hsz : h₃.objs.size = hp.objs.size := by rw [hs₃.1, hs₂.1, hs₁.1]
  have hel : e < hp.objs.size := Heap.lt_size he
  have ht₄ : h₄.get? hp.objs.size = some { cls := .type "tuple", data := .seq #[.int i tk, x] } := by rw [← hh₄, ← hsz]; exact Heap.get?_push_size _ rfl
  have hz₄ : h₄.objs.size = hp.objs.size + 1 := by rw [← hh₄, Heap.size_push, hsz]
  have hk₄ : Heap.ExtBut e h₁ h₄ := fun b o hbe hb => by
    rw [← hh₄]; exact Heap.get?_push_of_some _ (hs₃.extBut b o hbe (hs₂.extBut b o hbe hb))
  have hit₄ : h₄.IsListIter it l (i + 1) := by
    rw [← hh₄]; obtain ⟨o, ho, r⟩ := (hit₁.extBut hs₂.extBut (Ne.symm hne)).extBut hs₃.extBut (Ne.symm hne); exact ⟨o, Heap.get?_push_of_some _ ho, r⟩
  show wpAny _ _ (Builtin.SmallTypes.ownedTupleIsFree (.ref e) >>= _) _ _ ⟨h₄, g, d, tk + 1, os⟩
  rw [hsz]
  clear hh₄ he₃ hs₃ he₂ hs₂ he₁ hsz h₃ h₂
  refine wpAny_bind ?_
  · unfold Builtin.SmallTypes.ownedTupleIsFree
    refine wpAny_bind (wpAny_field he₄ rfl (x := .none) rfl (wpAny_pure ?_))
    simp only [if_true]
    refine wpAny_bind (wpAny_rule ?_)
    refine wpAny_bind (wpAny_field he₄ rfl (x := old) rfl ?_)
    refine wpAny_bind (wpAny_setField_rec he₄ (by simp) fun h₅ he₅ hs₅ => ?_)
    replace hs₅ : Heap.SameBut e h₄ h₅ := hs₅
    replace he₅ : IsEnum h₅ e it ((i : Int) + 1) x := he₅
    show wpAny _ _ (Builtin.SmallTypes.ownedTupleHandOut (.ref e) (.ref hp.objs.size) >>= _) _ _ ⟨h₅, g, d, tk + 1, os⟩
    refine wpAny_bind ?_
    · unfold Builtin.SmallTypes.ownedTupleHandOut
      refine wpAny_bind (wpAny_setField_rec he₅ (by simp) fun h₆ he₆ hs₆ => ?_)
      replace hs₆ : Heap.SameBut e h₅ h₆ := hs₆
      replace he₆ : IsEnumOut h₆ e it ((i : Int) + 1) x hp.objs.size := he₆
      refine wpAny_setField_rec he₆ (by simp) fun h₇ he₇ hs₇ => ?_
      replace hs₇ : Heap.SameBut e h₆ h₇ := hs₇
      replace he₇ : IsEnumOut h₇ e it ((i : Int) + 1) x hp.objs.size := he₇
      refine wpAny_bind (wpAny_letGo (wpAny_pure ⟨_, rfl, hQ h₁ h₇ he₇ ?_ ?_ ?_ hs₁ hit₁ ?_⟩))
      · exact ((hit₄.extBut hs₅.extBut (Ne.symm hne)).extBut hs₆.extBut (Ne.symm hne)).extBut hs₇.extBut (Ne.symm hne)
      · exact hs₇.extBut _ _ (Nat.ne_of_gt hel) (hs₆.extBut _ _ (Nat.ne_of_gt hel) (hs₅.extBut _ _ (Nat.ne_of_gt hel) ht₄))
      · rw [hs₇.1, hs₆.1, hs₅.1, hz₄]
      · exact fun b o hbe hb => hs₇.extBut b o hbe (hs₆.extBut b o hbe (hs₅.extBut b o hbe (hk₄ b o hbe hb)))

/-- one turn of the enumerator: the tuple, given out and let go -/
theorem enum_next {e it l : Addr} {i k : Nat} {items : Array Value} {ol : Obj} {x old : Value} {Q : Option Value → Shared → Prop}
    (he : IsEnum s.heap e it i old) (hit : s.heap.IsListIter it l i) (hl : s.heap.get? l = some ol) (hdl : ol.data = .seq items k) (hx : items[i]? = some x) (hne : e ≠ it)
    (hQ : ∀ h₁ h', IsEnumOut h' e it ((i : Int) + 1) x s.heap.objs.size → h'.IsListIter it l (i + 1) →
      h'.get? s.heap.objs.size = some { cls := .type "tuple", data := .seq #[.int i s.toks, x] } → h'.objs.size = s.heap.objs.size + 1 →
      Heap.SameBut it s.heap h₁ → h₁.IsListIter it l (i + 1) → Heap.ExtBut e h₁ h' → Q (some (.ref s.heap.objs.size)) { s with heap := h', toks := s.toks + 1 }) :
    wpAny (model prog w) A (pyNext (.ref e)) Q E s := by
  have hT : s.TypeIs (.ref e) "enumerate" := ⟨_, he, rfl⟩
  unfold pyNext
  exact wpAny_bind (wpAny_attempt (wpAny_callSpecial?_slot (name := Str.ofString "__next__") hT F.slot_enumerate_next
    (wpAny_call_entry F.slot_enumerate_next hT F.entry_enumerate_next
      (enum_item he hit hl hdl hx hne fun h₁ h' a b c d k k1 k2 => wpAny_pure (hQ h₁ h' a b c d k k1 k2)) (F.args_enumerate_next_1 _))))
end
end

section
abbrev tagIter : Stmt := subS (topS 8) 7
theorem fnTagIter (w : World) : ∃ oc od fd sl, (KF w).lookup 118 = some ⟨oc, od, .func fd, sl⟩ ∧ FnOk w fd (bodyOf tagIter) (namesOf tagIter) true ∧ fd.closure = [] ∧ ∀ a, bindArgs fd ⟨[a], []⟩ = (pure [(("self" : Str), a)] : Sem (List (Str × Value))) :=
  ⟨_, _, _, _, rfl, ⟨by kernel_rfl, by kernel_rfl, by kernel_rfl, by kernel_rfl, by kernel_rfl, by kernel_rfl, by kernel_rfl, by kernel_rfl⟩, by kernel_rfl, fun a => by kernel_rfl⟩

section
variable {w : World} {A : Around} {E : Value → Shared → Prop} {s₀ s s' b : Shared} {genv env cenv : Env} {m cm : Str → Option Value} {S : List (Addr × Obj)} {v : Value} {N NG g : Nat}

def pairR (c x : Value) : Nat → List (Addr × Obj) → Value → Prop := fun i T v => T = [] ∧ (i = 0 ∧ v = c ∨ i = 1 ∧ v = x)

theorem seg_tag {r c x : Value} {d : Nat} (hd : d + 10 ≤ 122) (G : GS w b genv cm S) (hC2 : genv.locals < N) (Ic : EnvIs genv (namesOf tagIter)) (hco : genv.scope.isCoroutine = false) (hin : interactive genv = false)
    (hr : IsTag S r c x) (hc : handedIn c = true) (hx : handedIn x = true)
    (s : Shared) (m : Str → Option Value) (X : Bx w b s) (hn : s.heap.Ns genv.locals m) (hm : m "self" = some r) (hg : s.gens[g]? = some .running) :
    Seg (model P0 w) (Amax (d + 10)).in1 (gxEnd w b N g (.ret .none)) (gxY w b N g 2 (pairR c x)) 2 s (.func (bodyOf tagIter) genv) ((model P0 w).den (.func (bodyOf tagIter) genv)) [] s := by
  have hA : AO (d + 8) ((Amax (d + 10)).in1.over (.func (bodyOf tagIter) genv) []) := ⟨rfl, by show 900 - (d + 10) + 1 + 0 + (d + 8) ≤ 900; omega, by show 9800 - 80 * (d + 10) + 1 + 0 + 3 + 80 * (d + 8) ≤ 9800; omega⟩
  refine seg_func ?_
  have X₀ := G.fxSeg X hn hC2 hg (Mv.refl s)
  refine seg_execs_cons (seg_Expr_Yield rfl rfl rfl ?_ hco hin)
  iterate 2 (walk_at "m1")
  refine tag_slot0 (dd := d) X₀.ok X₀.has hr (hA.le (by omega)) hc ?_
  have X₁ := X₀.tok (s.toks + 1)
  intro kap hkap
  refine ⟨⟨[], 0, by omega, HS.nil, rfl, .inl ⟨rfl, rfl⟩⟩, X₁.bx, X₁.sg.2.2, X₁.sg.2.1, fun s₃ fr hX hr₃ => hkap .none s₃ ?_⟩
  have hn₃ : s₃.heap.Ns genv.locals m := by
    obtain ⟨o, es, ep, e, r⟩ := X₁.ns
    exact ⟨o, es, ep, fr.heap _ _ hC2 X₁.n4 e, r⟩
  have X₃ := G.fxSeg hX hn₃ hC2 hr₃ (Mv.refl s₃)
  show Seg _ _ _ _ _ _ _ ((execs _ genv).wrap _ _ _ _) _ _
  refine seg_execs_cons (seg_Expr_Yield rfl rfl rfl ?_ hco hin)
  iterate 2 (walk_at "m1")
  refine tag_value0 (d := d) X₃.ok X₃.has hr (hA.le (by omega)) hx fun s₄ r₄ => ?_
  have X₄ := X₃.step r₄.ok r₄.kt r₄.os r₄.ge
  intro kap' hkap'
  refine ⟨⟨[], 1, by omega, HS.nil, rfl, .inr ⟨rfl, rfl⟩⟩, X₄.bx, X₄.sg.2.2, X₄.sg.2.1, fun s₅ fr' hX' hr₅ => hkap' .none s₅ ?_⟩
  show Seg _ _ _ _ _ _ _ ((execs _ genv).wrap _ _ _ _) _ _
  refine seg_execs_nil ?_
  exact seg_end (.ok (.ret .none)) ⟨rfl, rfl, hX', Mv.refl _, hr₅⟩

theorem call_tag {r c x : Value} {d : Nat} {Q : Value → Shared → Prop} (X : Bx w b s) (hS : HS S b.heap) (hA : AO (d + 12) A) (hd : d + 10 ≤ 122) (hr : IsTag S r c x) (hc : handedIn c = true) (hx : handedIn x = true)
    (h : ∀ g s', Ready w b g "generator" 2 (d + 10) (pairR c x) s' → Bx w b s' → Q (.ref g) s') :
    wpAny (model P0 w) A (call (.ref 118) [r]) Q E s := by
  obtain ⟨oc, od, fd, sl, hlook, F, hclo, hbd⟩ := fnTagIter w
  refine wpAny_call (codeAny_call_generator hA.room (X.ok.K _ _ hlook) rfl F.co F.gen F.body (codeRec_of X.ok.K F.code) ?_)
  refine wpAny_of_eq (hbd r) ?_
  rw [hclo]
  refine wpAny_newFunctionEnv (by rw [F.names]; decide) (fun y h => by rw [List.mem_singleton.mp h, F.names]; rfl) (fun h' hn' hs' => ?_) (by rw [F.kind])
  have hsz' : h'.objs.size = s.heap.objs.size + 1 := by rw [hs'.1, Heap.size_push]
  have keep' : ∀ b o, s.heap.get? b = some o → h'.get? b = some o := fun b o e => hs'.extBut b o (Nat.ne_of_lt (Heap.lt_size e)) (Heap.get?_push_of_some _ e)
  refine ⟨X.ok.lim.keeps keep', ?_⟩
  generalize hgo : ({ cls := .type "generator", data := .fields #[.int s.gens.size 0, .str fd.name (s.toks + 1), .str fd.qualname (s.toks + 1 + 1)] } : Obj) = go
  have hgf : go.isFreed = false := by rw [← hgo]; rfl
  have keep₅ : ∀ b o, s.heap.get? b = some o → (h'.push go).get? b = some o := fun b o e => Heap.get?_push_of_some _ (keep' b o e)
  have hC : b.heap.get? s.heap.objs.size = none := X.new0 (Heap.get?_none_of_le (Nat.le_refl _))
  have hgn : b.gens[s.gens.size]? = none := by
    cases q : b.gens[s.gens.size]? with
    | none => rfl
    | some x => have := X.ge.keep _ _ q; rw [Array.getElem?_eq_none (Nat.le_refl _)] at this; cases this
  have a4 : h'.objs.size ∉ T4 := X.ok₀.fresh (X.new0 (Heap.get?_none_of_le (by omega)))
  have n₅ := hn'.push go
  show Q _ _
  refine h _ _ ⟨h'.objs.size + 1, s.gens.size + 1, _, Itr.gen (fl := .ret .none) (.inr rfl) hgn (Nat.lt_succ_self _) (by omega), ⟨⟨go, _, _, Heap.get?_push_size _ hgf, by subst hgo; rfl, by subst hgo; rfl, by subst hgo; rfl⟩, a4, _, Array.getElem?_push_size .., fun s'' fr X'' hr' => ⟨rfl, ?_⟩⟩, by rw [Heap.size_push]; exact Nat.le_refl _, by rw [Array.size_push]; exact Nat.le_refl _⟩
    (X.pushGen rfl keep₅)
  have hI : EnvIs (newEnv fd.scope s.heap.objs.size fd.globals [] (fd.qualname ++ ".<locals>.") (some 118) fd.code none fd.builtins) (namesOf tagIter) := ⟨F.kind, F.glob, F.blt, F.names⟩
  refine seg_tag (cm := fun _ => none) hd ⟨hC, (fun n c e => by cases e), (fun p hp => by cases hp), .nil, hS⟩ (by show s.heap.objs.size < _; omega) hI F.co (interactive_fn F.kind) hr hc hx s'' (fun y => ([(("self" : Str), r)] : List (Str × Value)).reverse.lookup y) X'' ?_ rfl hr'
  obtain ⟨o, es, ep, e, r⟩ := n₅
  exact ⟨o, es, ep, fr.heap _ _ (by show s.heap.objs.size < _; omega) (X.ok₀.fresh hC) e, r⟩
end
end

section
section
variable {w : World} {A : Around} {E : Value → Shared → Prop} {s₀ s s' b : Shared} {env : Env} {ow : Ow} {m cm : Str → Option Value} {S : List (Addr × Obj)} {v : Value} {N NG g : Nat}

theorem tag_pyIter {r c x : Value} {d : Nat} {Q : Value → Shared → Prop} (ok : Ok w s.heap) (hS : HS S s.heap) (hA : AO (d + 12) A) (hd : d + 10 ≤ 122) (hr : IsTag S r c x) (hc : handedIn c = true) (hx : handedIn x = true)
    (h : ∀ g s', Ready w s g "generator" 2 (d + 10) (pairR c x) s' → Bx w s s' → Q (.ref g) s') : wpAny (model P0 w) A (pyIter r) Q E s := by
  obtain ⟨a, dx, rfl, hm⟩ := id hr
  obtain ⟨ha, _, _⟩ := hS _ hm
  have L0 : Looks (model P0 w) s.heap (specialOf (.ref a) "__iter__") (some (.ref 118)) := (show Looks (model P0 w) s.heap (typeOf (.ref a)) (.ref 150) from (Looks.ld ha).andThen .now).andThen (looks_findIn ok.K (by kernel_rfl))
  have L1 : Looks (model P0 w) s.heap (bindSpecial (.ref 118) (.ref a)) (.ref 118, [.ref a]) := bind_fn ok.K _ (by kernel_rfl)
  unfold pyIter
  refine wpAny_bind (L0.at ?_)
  show wpAny _ A (callSpecialIfBoundUnlessNone? (.ref a) "__iter__" _ >>= _) _ _ _
  unfold callSpecialIfBoundUnlessNone? bindSpecialIfBound?
  repeat lk
  have fin : wpAny (model P0 w) A (call (.ref 118) [.ref a]) (fun v s' => wpAny (model P0 w) A (specialOf v "__next__") (fun o s₁ => match o with | none => False | some _ => Q v s₁) E s') E s := by
    refine call_tag (Bx.self ok) hS hA hd hr hc hx fun g s' R X => ?_
    obtain ⟨N, NG, St, I, st, r⟩ := id R
    have hT := I.type _ _ st
    exact wpAny_specialOf hT slot_gen_next.lookup (h g s' R X)
  have fin2 : wpAny (model P0 w) A (call (.ref 118) [.ref a] >>= fun v => pure (some v)) (fun r s' => ∃ v, r = some v ∧ wpAny (model P0 w) A (specialOf v "__next__") (fun o s₁ => match o with | none => False | some _ => Q v s₁) E s') E s :=
    wpAny_bind (wpAny_mono fin (fun v s' h' => wpAny_pure ⟨v, rfl, h'⟩) fun _ _ z => z)
  split
  · refine wpAny_bind (L1.at (wpAny_pure ?_))
    refine wpAny_mono fin2 (fun r s' hr => ?_) fun _ _ z => z
    obtain ⟨v, rfl, hv⟩ := hr
    refine wpAny_bind (wpAny_mono hv (fun r s₂ hr => ?_) fun _ _ z => z)
    cases r with
    | none => exact hr.elim
    | some g => exact wpAny_pure hr
  · refine wpAny_tryCatch (wpAny_bind (L1.at (wpAny_pure ?_)))
    refine wpAny_mono fin2 (fun r s' hr => ?_) fun _ _ z => z
    obtain ⟨v, rfl, hv⟩ := hr
    refine wpAny_bind (wpAny_mono hv (fun r s₂ hr => ?_) fun _ _ z => z)
    cases r with
    | none => exact hr.elim
    | some g => exact wpAny_pure hr

theorem unpack_tag {r c x : Value} {d : Nat} {Q : List Value → Shared → Prop} (ok : Ok w s.heap) (hS : HS S s.heap) (hA : AO (d + 12) A) (hd : d + 10 ≤ 122) (hr : IsTag S r c x) (hc : handedIn c = true) (hx : handedIn x = true)
    (h : ∀ s', Bx w s s' → Q [c, x] s') : wpAny (model P0 w) A (unpackItems r 2 none) Q E s := by
  obtain ⟨a, dx, rfl, hm⟩ := id hr
  obtain ⟨ha, _, _⟩ := hS _ hm
  have L0 : Looks (model P0 w) s.heap (specialOf (.ref a) "__iter__") (some (.ref 118)) := (show Looks (model P0 w) s.heap (typeOf (.ref a)) (.ref 150) from (Looks.ld ha).andThen .now).andThen (looks_findIn ok.K (by kernel_rfl))
  unfold unpackItems
  refine wpAny_bind ?_
  unfold notIterableAtAll
  refine wpAny_bind (L0.at (wpAny_pure ?_))
  simp only [Bool.false_eq_true, if_false]
  refine wpAny_bind (wpAny_holding (tag_pyIter ok hS hA hd hr hc hx fun g s₁ R X₁ => ?_))
  obtain ⟨N, NG, St, I, st, _⟩ := R
  have up : ∀ {α : Type} {m : Sem α} {Q' : α → Shared → Prop} {s : Shared}, wpAny (model P0 w) (Amax (d + 10)) m Q' (fun _ _ => False) s → wpAny (model P0 w) A m Q' E s := fun y => wpAny_mono (wpAny_up (hA.le (by omega)) y) (fun _ _ z => z) fun _ _ z => z.elim
  refine wpAny_bind (wpAny_holding ?_)
  show wpAny _ _ (pyNext (.ref g) >>= _) _ _ _
  refine wpAny_bind (wpAny_mono (up (I.item 0 s₁ (fun _ _ => False) (by omega) st X₁)) (fun o s₂ h₂ => ?_) fun _ _ z => z)
  obtain ⟨v, T', rfl, hT', ⟨rfl, hv⟩, st₂, X₂, M₂⟩ := h₂
  have hv : v = c := by rcases hv with ⟨_, e⟩ | ⟨e, _⟩; exact e; cases e
  subst hv
  refine wpAny_bind (wpAny_holding ?_)
  show wpAny _ _ (pyNext (.ref g) >>= _) _ _ _
  refine wpAny_bind (wpAny_mono (up (I.item 1 s₂ (fun _ _ => False) (by omega) st₂ X₂)) (fun o s₃ h₃ => ?_) fun _ _ z => z)
  obtain ⟨v', T', rfl, hT', ⟨rfl, hv'⟩, st₃, X₃, M₃⟩ := h₃
  have hv' : v' = x := by rcases hv' with ⟨e, _⟩ | ⟨_, e⟩; cases e; exact e
  subst hv'
  refine wpAny_bind (wpAny_holding ?_)
  refine wpAny_pure (wpAny_pure (wpAny_pure ?_))
  rw [if_neg (show ¬ [v, v'].length < 2 from Nat.lt_irrefl 2)]
  refine wpAny_bind (wpAny_holding (wpAny_mono (up (I.done s₃ (fun _ _ => False) st₃ X₃)) (fun o s₄ h₄ => ?_) fun _ _ z => z))
  obtain ⟨rfl, X₄, M₄⟩ := h₄
  exact wpAny_pure (h _ X₄)

theorem asg_tag {names : List (Str × NameKind)} {xa xb : Str} {pa pb tp : Pos} {k d : Nat} {r u v : Value} {Q : Unit → Shared → Prop} (I : EnvIs env names) (hxa : names.lookup xa = some .local) (hxb : names.lookup xb = some .local) (hA : AO (d + 12) A) (hd : d + 10 ≤ 122) (X : Fx w s₀ env ow m cm S s) (hr : IsTag S r u v) (hu : handedIn u = true) (hv : handedIn v = true)
    (h : ∀ s', Fx w s₀ env ow (fun y => if y = xb then some v else if y = xa then some u else m y) cm S s' → (∀ a o, a ≠ env.locals → a ∉ T4 → s.heap.get? a = some o → s'.heap.get? a = some o) → Q () s') :
    wpAny (model P0 w) A (assign (.Tuple [.Name xa pa, .Name xb pb] k tp) env r) Q E s := by
  rw [arm_assign_Tuple]
  refine wpAny_bind (wpAny_standAt ?_)
  unfold unpack
  refine wpAny_bind (wpAny_holding (unpack_tag X.ok X.has hA hd hr hu hv fun s₁ B => ?_))
  have X₁ := X.step B.ok B.kt B.os B.ge
  have hp : (env.scope.kind == .class || (env.scope.kind == .module && env.locals != env.globals)) = false := by rw [I.kind]; rfl
  show wpAny _ A (holding [v] (assign (.Name xa pa) env u) >>= fun _ => (holding [] (assign (.Name xb pb) env v) >>= fun _ => pure ())) _ _ _
  refine wpAny_bind (wpAny_holding (wpAny_assign_Name (wpAny_storeName_local (I.kindOf hxa) X₁.ns (fun h₂ hn₂ hs₂ => ?_) hp)))
  have X₂ := X₁.storeL (t := s₁.toks + 1) hn₂ hs₂
  refine wpAny_bind (wpAny_holding (wpAny_assign_Name (wpAny_storeName_local (I.kindOf hxb) X₂.ns (fun h₃ hn₃ hs₃ => ?_) hp)))
  have X₃ := X₂.storeL (t := s₁.toks + 1 + 1) hn₃ hs₃
  exact wpAny_pure (h _ X₃ (fun a o n n4 e => hs₃.extBut a o n (hs₂.extBut a o n (B.kt a o n4 e))))
end
end

section
section
variable {w : World} {A : Around} {E : Value → Shared → Prop} {s₀ s s' b : Shared} {env : Env} {ow : Ow} {m cm : Str → Option Value} {S : List (Addr × Obj)} {v : Value}

theorem wf {target iter : Expr} {body : List Stmt} {pos : Pos} {Q : Flow → Shared → Prop}
    (h : wpAny (model P0 w) A (eval iter env) (fun x s₁ => wpAny (model P0 w) A (pyIter x) (fun it s₂ => ∃ (I : Nat → Shared → Prop) (n : Nat), I n s₂ ∧ ∀ n s, I n s → wpAny (model P0 w) A (pyNext it) (fun r s₁ => match r with
        | none => Q .next s₁
        | some v => wpAny (model P0 w) A (letOwnedTupleGo target it v) (fun _ s₁' => wpAny (model P0 w) A (assign target env v) (fun _ s₂ => wpAny (model P0 w) A (execs body env) (fun f s₃ => match f with
            | .next | .cont => ∃ m, m < n ∧ I m s₃
            | .brk => Q .next s₃
            | .ret v => Q (.ret v) s₃) (fun _ _ => False) s₂) (fun _ _ => False) s₁') (fun _ _ => False) s₁) (fun _ _ => False) s) (fun _ _ => False) s₁) (fun _ _ => False) s)
    (hs : ∀ x, foldedSetIterable iter env x = pure x := by intro _; rfl) :
    wpAny (model P0 w) A (exec (.For target iter body [] pos) env) Q (fun _ _ => False) s := by
  refine wpAny_For (wpAny_mono h (fun x s₁ h₁ => wpAny_mono h₁ (fun it s₂ h₂ => ?_) fun _ _ z => z) fun _ _ z => z) hs
  obtain ⟨I, n, hI, turn⟩ := h₂
  refine codeAny_mono (codeAny_forLoop_any (R := fun r s' => ∃ f, r = .ok f ∧ Q f s') I (fun n s hI => wpAny_mono (turn n s hI) (fun r s₃ h₃ => ?_) fun _ _ z => z.elim) n hI) ?_
  · cases r with
    | none => exact wpAny_execs_nil ⟨_, rfl, h₃⟩
    | some v =>
      refine wpAny_mono h₃ (fun _ s₄ h₄ => wpAny_mono h₄ (fun _ s₅ h₅ => wpAny_mono h₅ (fun f s₆ h₆ => ?_) fun _ _ z => z.elim) fun _ _ z => z.elim) fun _ _ z => z.elim
      cases f <;> first | exact h₆ | exact ⟨_, rfl, h₆⟩
  · rintro r s' ⟨f, rfl, q⟩; exact q

abbrev enO (a it : Value) (i : Int) (old : Value) : Obj := { cls := .type "enumerate", dict := none, data := .fields #[a, .bool false, it, rawInt i, .none, old], slots := #[] }
theorem enO_nc (a it old : Value) (i : Int) : notCode (enO a it i old) := fun vs e q t h => by
  cases e; cases h
theorem enO_frz (a it old : Value) (i : Int) : frz (enO a it i old) = false := rfl

/-- one turn of `for index, (x, y) in enumerate(tags)` -/
theorem enum_turn {names : List (Str × NameKind)} {xi xa xb : Str} {p1 p2 p3 p4 p5 : Pos} {k1 k2 : Nat} {e it t : Addr} {ol oi : Obj} {items : Array Value} {k i dd : Nat} {old r u y : Value} {Q : Unit → Shared → Prop}
    (I : EnvIs env names) (hxi : names.lookup xi = some .local) (hxa : names.lookup xa = some .local) (hxb : names.lookup xb = some .local) (hA : AO (dd + 12) A) (hd : dd + 10 ≤ 122)
    (X : Fx w s₀ env ⟨.of true, [(e, enO .none (.ref it) i old), (it, oi)]⟩ m cm S s) (hoi : oi.cls = .type "list_iterator" ∧ oi.data = .fields #[.ref t, .int i 0]) (n1 : s₀.heap.get? e = none) (n2 : s₀.heap.get? it = none) (hne : e ≠ it)
    (hm : (t, ol) ∈ S) (hdl : ol.data = .seq items k) (hx : items[i]? = some r) (hr : IsTag S r u y) (hu : handedIn u = true) (hy : handedIn y = true)
    (h : ∀ s' oi' t1 S', Fx w s₀ env ⟨.of true, [(e, enO .none (.ref it) (i + 1) r), (it, oi')]⟩ (fun z => if z = xb then some y else if z = xa then some u else if z = xi then some (.int i t1) else m z) cm (S' ++ S) s' →
      oi'.cls = .type "list_iterator" ∧ oi'.data = .fields #[.ref t, .int ((i + 1 : Nat) : Int) 0] → Q () s') :
    wpAny (model P0 w) A (pyNext (.ref e)) (fun r s₁ => match r with
        | none => False
        | some v => wpAny (model P0 w) A (letOwnedTupleGo (.Tuple [.Name xi p1, .Tuple [.Name xa p2, .Name xb p3] k1 p4] k2 p5) (.ref e) v) (fun _ s₁' => wpAny (model P0 w) A (assign (.Tuple [.Name xi p1, .Tuple [.Name xa p2, .Name xb p3] k1 p4] k2 p5) env v) Q (fun _ _ => False) s₁') (fun _ _ => False) s₁) (fun _ _ => False) s := by
  have he := X.dd _ (.head _)
  have hi := X.dd _ (.tail _ (.head _))
  obtain ⟨hl, _, _⟩ := X.has _ hm
  have hit : s.heap.IsListIter it t i := ⟨oi, hi.1, hoi.1, hoi.2⟩
  have nsz : s.heap.get? s.heap.objs.size = none := Heap.get?_none_of_le (Nat.le_refl _)
  refine enum_next he.1 hit hl hdl hx hne fun h₁ h' heo hit' htu hsz hs₁ hit₁ hx' => ?_
  obtain ⟨oi', ho', hc', hd'⟩ := id hit₁
  obtain ⟨oq, hoq, fi, nci⟩ := IsListIter.frz0 hit
  rw [show s.heap.get? it = some oi from hi.1] at hoq; cases hoq
  have X₁ := (X.dropD (D' := [(it, oi), (e, enO .none (.ref it) i old)]) (by intro p hp; simp only [List.mem_cons, List.not_mem_nil, or_false] at hp ⊢; exact hp.symm)).updD (t := s.toks) n2 (by intro p hp; rw [List.mem_singleton.mp hp]; exact hne) (fun p hp => X.dictNot hp hi.1 fi) nci ho' hs₁.extBut
  have X₂ := (X₁.dropD (D' := [(e, enO .none (.ref it) i old), (it, oi')]) (by intro p hp; simp only [List.mem_cons, List.not_mem_nil, or_false] at hp ⊢; exact hp.symm)).updD (h' := h') (t := s.toks + 1) n1 (by intro p hp; rw [List.mem_singleton.mp hp]; exact Ne.symm hne) (fun p hp => X.dictNot hp he.1 rfl) (enO_nc _ _ _ _) heo hx'
  refine wpAny_letOwnedTupleGo_enum heo fun h₂ he₂ hs₂ => ?_
  have X₃ := X₂.updD (o' := enO .none (.ref it) (i + 1) r) (h' := h₂) (t := s.toks + 1) n1 (by intro p hp; rw [List.mem_singleton.mp hp]; exact Ne.symm hne) (fun p hp => X.dictNot hp he.1 rfl) (enO_nc _ _ _ _) he₂ hs₂.extBut
  have htu₂ : h₂.get? s.heap.objs.size = some { cls := .type "tuple", data := .seq #[.int i s.toks, r] } := hs₂.extBut _ _ (fun q => by rw [← q, nsz] at he; cases he.1) htu
  refine wpAny_assign_Tuple (items := #[.int i s.toks, r]) hA.h ⟨_, htu₂, rfl, _, rfl⟩ (by rfl) (by rfl) fun h₃ hx₃ => ?_
  have nsz₂ : h₂.get? h₂.objs.size = none := Heap.get?_none_of_le (Nat.le_refl _)
  have X₄ := X₃.grow (h' := h₃) (t := s.toks + 1) (fun a o q => hx₃ a o (fun z => by
    have q' : h₂.get? a = some o := q
    rw [show a = h₂.objs.size from z, nsz₂] at q'; cases q') q)
  have hp : (env.scope.kind == .class || (env.scope.kind == .module && env.locals != env.globals)) = false := by rw [I.kind]; rfl
  show wpAny _ A (holding [r] (assign (.Name xi p1) env (.int i s.toks)) >>= fun _ => (holding [] (assign (.Tuple [.Name xa p2, .Name xb p3] k1 p4) env r) >>= fun _ => pure ())) _ _ _
  refine wpAny_bind (wpAny_holding (wpAny_assign_Name (wpAny_storeName_local (I.kindOf hxi) X₄.ns (fun h₅ hn₅ hs₅ => ?_) hp)))
  have X₅ := X₄.storeL (t := s.toks + 1 + 1) hn₅ hs₅
  refine wpAny_bind (wpAny_holding (asg_tag I hxa hxb hA hd X₅ hr hu hy fun s₆ X₆ _ => ?_))
  exact wpAny_pure (h s₆ oi' s.toks [] X₆ ⟨hc', hd'⟩)
end
end

section
abbrev fbD : Stmt := topS 15
theorem fnFb (w : World) : ∃ oc od fd sl, (KF w).lookup 375 = some ⟨oc, od, .func fd, sl⟩ ∧ FnOk w fd (bodyOf fbD) (namesOf fbD) false ∧ fd.closure = [] ∧ ∀ a b, bindArgs fd ⟨[a, b], []⟩ = (pure [(("name" : Str), a), (("tags" : Str), b)] : Sem (List (Str × Value))) :=
  ⟨_, _, _, _, rfl, ⟨by kernel_rfl, by kernel_rfl, by kernel_rfl, by kernel_rfl, by kernel_rfl, by kernel_rfl, by kernel_rfl, by kernel_rfl⟩, by kernel_rfl, fun a b => by kernel_rfl⟩

section
variable {w : World} {A : Around} {E : Value → Shared → Prop} {s₀ s s' b : Shared} {env : Env} {ow : Ow} {m cm : Str → Option Value} {S : List (Addr × Obj)} {dd : Nat}

theorem fb_spec {nm : Str} {tn : Tok} {t : Addr} {ps : List (Int × Str)} {i0 j : Nat} (ok : Ok w s.heap) (hS : HS S s.heap) (ht : TP S t ps) (hA : AO (dd + 21) A) (hd : dd + 20 ≤ 122) (hnm : nm.length ≤ 1000)
    (hj : ps[j]? = some (1000, nm ++ "_END")) (h0 : ps[i0]? = some (1000, nm ++ "_BEGIN")) (h0j : i0 < j) (hE : ∀ i p, i < j → ps[i]? = some p → p.1 = 1000 → p.2 ≠ nm ++ "_END") (hB : ∀ i p, i0 < i → ps[i]? = some p → p.1 = 1000 → p.2 ≠ nm ++ "_BEGIN") :
    wpAny (model P0 w) A (call (.ref 375) [.str nm tn, .ref t]) (Ret w s (fun S' v => ∃ tu t1 t2, v = .ref tu ∧ (tu, ({ cls := .type "tuple", data := .seq #[.int i0 t1, .int ((j : Int) + 1) t2] } : Obj)) ∈ S')) E s := by
  obtain ⟨oc, od, fd, sl, hlook, F, hclo, hb⟩ := fnFb w
  refine callF ok hS (d := dd + 20) hA hlook F hclo (BindsTo.of_eq (hb _ _)) (by rfl) ?_
  intro env s₁ L m cm I hc hcode hq hA' hm hcm X
  have hm1 := (hm "name" (by rfl)).trans (show _ = some (Value.str nm tn) from rfl)
  have hm2 := (hm "tags" (by rfl)).trans (show _ = some (Value.ref t) from rfl)
  have hl1 : (Str.ofString "_BEGIN").length = 6 := rfl
  have hl2 : (Str.ofString "_END").length = 4 := rfl
  repeat (walk_at "m1")
  rename_i sP XP
  clear hm hcm
  obtain ⟨ol, items, k, htS, hso, hsz, hit⟩ := ht
  refine wf ?_ (by intro _; rfl)
  repeat (walk_at "m1")
  have hlt := (XP.has _ htS).1
  refine enum_make XP.ok hlt hso fun h' hen hli hz hk => ?_
  refine wpAny_pyIter_enum hen ?_
  obtain ⟨oi, ho, hc', hd'⟩ := id hli
  have XQ := XP.grow (t := sP.toks) hk
  have nx : sP.heap.get? sP.heap.objs.size = none := Heap.get?_none_of_le (Nat.le_refl _)
  have nx1 : sP.heap.get? (sP.heap.objs.size + 1) = none := Heap.get?_none_of_le (Nat.le_succ _)
  have hLl : env.locals < sP.heap.objs.size := XP.ns.lt
  have hcl : ∀ q ∈ env.cells, q.2 < sP.heap.objs.size := by rw [hc]; intro q hq; cases hq
  have XR := XQ.addD (D' := [(sP.heap.objs.size + 1, enO .none (.ref sP.heap.objs.size) 0 .none), (sP.heap.objs.size, oi)]) (by
    intro p hp
    simp only [List.mem_cons, List.not_mem_nil, or_false] at hp
    rcases hp with rfl | rfl
    · exact ⟨hen, XP.ok.fresh nx1, Ne.symm (Nat.ne_of_lt (Nat.lt_succ_of_lt hLl)), fun q hq => Nat.ne_of_lt (Nat.lt_succ_of_lt (hcl q hq))⟩
    · exact ⟨ho, XP.ok.fresh nx, Ne.symm (Nat.ne_of_lt hLl), fun q hq => Nat.ne_of_lt (hcl q hq)⟩)
  have n1 : s.heap.get? (sP.heap.objs.size + 1) = none := XP.bx.new0 nx1
  have n2 : s.heap.get? sP.heap.objs.size = none := XP.bx.new0 nx
  have hne : sP.heap.objs.size + 1 ≠ sP.heap.objs.size := Nat.succ_ne_self _
  generalize sP.heap.objs.size + 1 = e at *
  generalize sP.heap.objs.size = it at *
  have hkk := SeqO.data hso
  refine ⟨fun n s' => ∃ i m' old oi' S', i ≤ j ∧ n = j + 1 - i ∧ Fx w s env ⟨.of true, [(e, enO .none (.ref it) i old), (it, oi')]⟩ m' cm (S' ++ S) s' ∧ (oi'.cls = .type "list_iterator" ∧ oi'.data = .fields #[.ref t, .int i 0]) ∧
    (∃ tb, m' "begin_name" = some (.str (nm ++ "_BEGIN") tb)) ∧ (∃ te, m' "end_name" = some (.str (nm ++ "_END") te)) ∧ m' "end" = some .none ∧ ∃ v, m' "start" = some v ∧ (i0 < i → ∃ tt, v = .int i0 tt), j + 1,
    ⟨0, _, .none, oi, [], Nat.zero_le _, rfl, XR, ⟨hc', hd'⟩, ⟨_, by walk_at "m.look"⟩, ⟨_, by walk_at "m.look"⟩, by walk_at "m.look", .none, by walk_at "m.look", fun q => absurd q (Nat.not_lt_zero _)⟩, ?_⟩
  clear XR XQ hen hli hk hz ho hc' hd' hlt
  rintro n s' ⟨i, m', old, oi', S', hi, rfl, X', hoi', ⟨tb, g1⟩, ⟨te, g2⟩, g3, vs, g4, g5⟩
  have hjs : j < items.size := by rw [hsz]; exact (List.getElem?_eq_some_iff.mp hj).1
  have hx : items[i]? = some items[i] := Array.getElem?_eq_getElem (Nat.lt_of_le_of_lt hi hjs)
  obtain ⟨p, tc, ty, hp, hr⟩ := hit i _ hx
  generalize items[i] = r at hx hr
  refine' wpAny_mono (enum_turn (xi := "index") (xa := "code") (xb := "value") (dd := dd) I (by rfl) (by rfl) (by rfl) (hA'.le (by omega)) (by omega) X' hoi' n1 n2 hne (List.mem_append_right _ htS) hkk hx (hr.sub fun q hq => List.mem_append_right _ hq) rfl rfl ?_) (fun r s₁ h₁ => ?_) (fun _ _ z => z)
  rotate_right
  · cases r with
    | none => exact h₁.elim
    | some v => exact h₁
  intro s₂ oi₂ t1 S₂ X₂ hoi₂
  have f1 : ∀ z : Str, z ≠ "value" → z ≠ "code" → z ≠ "index" → (if z = "value" then some (.str p.2 ty) else if z = "code" then some (.int p.1 tc) else if z = "index" then some (.int i t1) else m' z) = m' z := fun z a b c => by rw [if_neg a, if_neg b, if_neg c]
  generalize hmx : (fun z : Str => if z = Str.ofString "value" then some (Value.str p.2 ty) else if z = Str.ofString "code" then some (Value.int p.1 tc) else if z = Str.ofString "index" then some (Value.int i t1) else m' z) = mx at X₂
  have q1 : mx "value" = some (.str p.2 ty) := by rw [← hmx]; rfl
  have q2 : mx "code" = some (.int p.1 tc) := by rw [← hmx]; rfl
  have q3 : mx "index" = some (.int i t1) := by rw [← hmx]; rfl
  have q4 : mx "begin_name" = some (.str (nm ++ "_BEGIN") tb) := by rw [← hmx]; exact g1
  have q5 : mx "end_name" = some (.str (nm ++ "_END") te) := by rw [← hmx]; exact g2
  have q6 : mx "end" = some .none := by rw [← hmx]; exact g3
  have q7 : mx "start" = some vs := by rw [← hmx]; exact g4
  clear hmx f1
  walk_at "m1"
  walk_at "m1"
  repeat (walk_at "m1")
  have nx1000 : ∀ s₃ m₃ S₃, Fx w s env ⟨.of true, [(e, enO .none (.ref it) (i + 1) r), (it, oi₂)]⟩ m₃ cm S₃ s₃ → (∃ S', S₃ = S' ++ S) → i ≠ j → m₃ "begin_name" = some (.str (nm ++ "_BEGIN") tb) → m₃ "end_name" = some (.str (nm ++ "_END") te) → m₃ "end" = some .none → (∃ v, m₃ "start" = some v ∧ (i0 < i + 1 → ∃ tt, v = .int i0 tt)) →
      ∃ n, n < j + 1 - i ∧ ∃ i m' old oi' S', i ≤ j ∧ n = j + 1 - i ∧ Fx w s env ⟨.of true, [(e, enO .none (.ref it) i old), (it, oi')]⟩ m' cm (S' ++ S) s₃ ∧ (oi'.cls = .type "list_iterator" ∧ oi'.data = .fields #[.ref t, .int i 0]) ∧
    (∃ tb, m' "begin_name" = some (.str (nm ++ "_BEGIN") tb)) ∧ (∃ te, m' "end_name" = some (.str (nm ++ "_END") te)) ∧ m' "end" = some .none ∧ ∃ v, m' "start" = some v ∧ (i0 < i → ∃ tt, v = .int i0 tt) := by
    rintro s₃ m₃ S₃ X₃ ⟨S', rfl⟩ hij a1 a2 a3 a4
    exact ⟨j + 1 - (i + 1), by omega, i + 1, m₃, r, oi₂, S', by omega, rfl, X₃, hoi₂, ⟨_, a1⟩, ⟨_, a2⟩, a3, a4⟩
  have hnb : i ≠ i0 → (i0 < i + 1 → ∃ tt, vs = .int i0 tt) := fun a b => g5 (by omega)
  by_cases hc1 : p.1 = 1000
  · rw [if_pos (by rw [hc1]; rfl)]
    repeat (walk_at "m1")
    by_cases hbn : p.2 = nm ++ "_BEGIN"
    · rw [if_pos (by rw [hbn]; exact beq_self_eq_true _)]
      repeat (walk_at "m1")
      have hij : i ≠ j := fun q => by
        rw [q, hj] at hp; cases hp
        exact absurd (congrArg Str.length hbn) (by simp only [Str.length_append, hl1, hl2]; omega)
      have hii : i ≤ i0 := Nat.le_of_not_lt fun q => hB i p q hp hc1 hbn
      rename_i s₃ X₃
      exact nx1000 s₃ _ _ X₃ ⟨_, (List.append_assoc _ _ _).symm⟩ hij (by walk_at "m.look") (by walk_at "m.look") (by walk_at "m.look") ⟨_, by walk_at "m.look", fun q => ⟨t1, by rw [show i = i0 by omega]⟩⟩
    · rw [if_neg (by rw [beq_iff_eq]; exact hbn)]
      repeat (walk_at "m1")
      have hii : i ≠ i0 := fun q => by rw [q, h0] at hp; cases hp; exact hbn rfl
      by_cases hen : p.2 = nm ++ "_END"
      · rw [if_pos (by rw [hen]; exact beq_self_eq_true _)]
        repeat (walk_at "m1")
        have hij : i = j := by
          rcases Nat.lt_or_ge i j with q | q
          · exact absurd hen (hE i p q hp hc1)
          · omega
        subst hij
        obtain ⟨tt, rfl⟩ := g5 h0j
        refine wpAny_Break ?_
        show wpAny _ _ (execs _ env) _ _ _
        repeat (walk_at "m1")
        rw [if_neg (show ¬ ((Value.int _ _ == Value.none) = true) from Bool.false_ne_true)]
        repeat (walk_at "m1")
        rw [if_neg (show ¬ ((Value.int _ _ == Value.none) = true) from Bool.false_ne_true)]
        repeat (walk_at "m1")
        rename_i s₉ X₉
        exact X₉.ret ⟨_, _, _, rfl, .head _⟩
      · rw [if_neg (by rw [beq_iff_eq]; exact hen)]
        repeat (walk_at "m1")
        rename_i s₃ X₃
        have hij : i ≠ j := fun q => by rw [q, hj] at hp; cases hp; exact hen rfl
        exact nx1000 s₃ _ _ X₃ ⟨_, (List.append_assoc _ _ _).symm⟩ hij (by walk_at "m.look") (by walk_at "m.look") (by walk_at "m.look") ⟨_, by walk_at "m.look", hnb hii⟩
  · rw [if_neg (by rw [beq_iff_eq]; exact hc1)]
    repeat (walk_at "m1")
    rename_i s₃ X₃
    have hij : i ≠ j := fun q => by rw [q, hj] at hp; cases hp; exact hc1 rfl
    have hii : i ≠ i0 := fun q => by rw [q, h0] at hp; cases hp; exact hc1 rfl
    exact nx1000 s₃ _ _ X₃ ⟨_, (List.append_assoc _ _ _).symm⟩ hij (by walk_at "m.look") (by walk_at "m.look") (by walk_at "m.look") ⟨_, by walk_at "m.look", hnb hii⟩
end
end

section
abbrev lstO (acc : Array Value) (k : Nat) : Obj := { cls := .type "list", dict := none, data := .seq acc k, slots := #[] }
/-- a walk that uses no generator -/
def Ready0 (w : World) (b : Shared) (a : Addr) (T : String) (n d : Nat) (R : Nat → List (Addr × Obj) → Value → Prop) (s : Shared) : Prop :=
  ∃ N St, Itr w b a T N 0 n d R St ∧ St 0 s ∧ N ≤ s.heap.objs.size
theorem Ready0.list {w : World} {s : Shared} {t : Addr} {ol : Obj} {items : Array Value} {k d : Nat} (ok : Ok w s.heap) (ht : s.heap.get? t = some ol) (hd : ol.data = .seq items k) (n4 : t ∉ T4) (hdd : d ≤ 122) :
    Ready0 w s s.heap.objs.size "list_iterator" items.size d (fun i T v => T = [] ∧ items[i]? = some v) { s with heap := s.heap.push { cls := .type "list_iterator", data := .fields #[.ref t, .int 0 0] } } := by
  have hlt := Heap.lt_size ht
  have nx : s.heap.get? s.heap.objs.size = none := Heap.get?_none_of_le (Nat.le_refl _)
  refine ⟨s.heap.objs.size + 1, _, Itr.list nx (Nat.lt_succ_self _) (Nat.lt_succ_of_lt hlt) hdd (Nat.ne_of_lt hlt), ⟨⟨_, Heap.get?_push_size _ rfl, rfl, rfl⟩, ok.fresh nx, n4, ol, k, Heap.get?_push_of_some _ ht, hd⟩, ?_⟩
  rw [Heap.size_push]; exact Nat.le_refl _
section
variable {w : World} {A : Around} {E : Value → Shared → Prop} {s₀ s s' b : Shared} {env : Env} {m cm : Str → Option Value} {S : List (Addr × Obj)} {v : Value}

theorem heap_erase (h : Heap) (C : Addr) : ∃ h', Heap.SameBut C h h' ∧ h'.get? C = none := by
  refine ⟨h.update C fun o => { o with data := .freed }, Heap.SameBut.update .., ?_⟩
  cases q : (h.update C fun o => { o with data := .freed }).get? C with
  | none => rfl
  | some o =>
    obtain ⟨e1, e2⟩ := Heap.get?_some_iff.mp q
    obtain ⟨objs⟩ := h
    simp only [Heap.update, Array.getElem?_modify, if_true] at e1
    cases hx : objs[C]? with
    | none => rw [hx] at e1; cases e1
    | some x =>
      rw [hx] at e1
      cases e1
      simp [Obj.isFreed] at e2

theorem Fx.dictNot' {cenv : Env} {ow : Ow} {F : List (Addr × Obj)} (Y : Fx w b cenv ow m cm S s) (hF : HS F s.heap) {p : Addr × Obj} (hp : p ∈ F) : p.1 ≠ cenv.locals := fun q => by
  obtain ⟨o, es, ep, e, d, _⟩ := Y.ns
  obtain ⟨e1, _, e3⟩ := hF p hp
  rw [q, e] at e1; cases e1
  unfold frz at e3
  rw [d] at e3
  cases e3

theorem Fx.rebase {cenv : Env} (Y : Fx w b cenv ⟨.of false, []⟩ m cm S s) : ∃ b', Fx w b' cenv ⟨.of false, []⟩ m cm S s ∧ (∀ a o, a ≠ cenv.locals → s.heap.get? a = some o → b'.heap.get? a = some o) ∧ b'.os = s.os ∧ b'.gens = s.gens := by
  obtain ⟨h', hs, hn⟩ := heap_erase s.heap cenv.locals
  obtain ⟨o, es, ep, e, d, _⟩ := id Y.ns
  obtain ⟨ok', kt'⟩ := Y.ok₀.upd Y.ok Y.kt Y.nsf e (fun vs q t tt hh => by rw [d] at q; cases q) hs.extBut
  refine ⟨{ s with heap := h' }, ⟨ok', Y.ok, fun a o n q => ?_, rfl, GE.refl _, Y.ns, hn, Y.cell, Y.cn, Y.apart, fun h => (nomatch h), Y.has, (fun p h => nomatch h), trivial⟩, fun a o n q => hs.extBut a o n q, rfl, rfl⟩
  have ne : a ≠ cenv.locals := fun z => by
    have q' : h'.get? a = some o := q
    rw [z, hn] at q'; cases q'
  have q' : h'.get? a = some o := q
  rw [hs.2 a ne] at q'
  exact q'

theorem compEnv_is {scope : Scope} {cl : List (Str × Addr)} {C : Addr} {names : List (Str × NameKind)} (I : EnvIs env names) (hk : scope.kind = .function) : EnvIs (compEnvC scope cl C env) (relabel scope env).names :=
  ⟨hk, I.glob, I.blt, rfl⟩

theorem lc_core {elt iter : Expr} {x : Str} {px pos : Pos} {scope : Scope} {cl : List (Str × Addr)} {I : Addr} {T₁ : String} {n d : Nat} {R₁ R : Nat → List (Addr × Obj) → Value → Prop} {names : List (Str × NameKind)} {RR : Value → Addr → Result → Shared → Prop}
    (Ie : EnvIs env names) (X : Bx w b s) (I₀ : Ready0 w b I T₁ n d R₁ s) (hn : n ≤ 100000) (hA : AO d A) (hkind : scope.kind = .function) (hcell : ∀ y ∈ scope.names, y.2 ≠ .cell) (hx : scope.names.lookup x = some .local)
    (h1 : ∀ n c, cl.lookup n = some c → b.heap.IsCell c (cm n)) (h2 : ∀ p ∈ cl, p.2 ∉ T4) (h3 : cl.Pairwise fun x y => x.2 ≠ y.2) (h4 : HS S b.heap) (hRT : ∀ j T v, R j T v → ∀ p ∈ T, p.2.cls ≠ .type "list")
    (helt : ∀ C i v T s m' b', R₁ i T v → m' x = some v → Fx w b' (compEnvC scope cl C env) ⟨.of false, []⟩ m' cm (T ++ S) s → wpAny (model P0 w) A (eval elt (compEnvC scope cl C env)) (fun y s' => ∃ m'' S' T', Fx w b' (compEnvC scope cl C env) ⟨.of false, []⟩ m'' cm S' s' ∧ (∀ p ∈ T', p ∈ S') ∧ R i T' y) (fun _ _ => False) s)
    (hRR : ∀ s' D C k acc F m', Bx w b s' → s'.heap.get? D = some (lstO acc k) → b.heap.get? D = none → b.heap.get? C = none → D ≠ C → s'.heap.Ns C m' → HS F s'.heap → (∀ p ∈ F, p.2.cls ≠ .type "list") → Acc R n F acc → RR (.ref D) C (.ok .next) s') :
    wpAny (model P0 w) A (newList []) (fun acc s₃ => wpAny (model P0 w) A (newFunctionEnv scope env.globals cl [] env.qual none .none (some env)) (fun cenv s₄ =>
      codeAny (model P0 w) A (.compStart (.ListComp elt [⟨.Name x px, iter, [], 0⟩] scope pos) 0 (.ref I) acc { cenv with scope := relabel scope env }) (RR acc cenv.locals) s₄) E s₃) E s := by
  obtain ⟨N, St, II, hst, hN⟩ := I₀
  refine wpAny_newObj_type (wpAny_newFunctionEnv hcell (by intro y hy; simp at hy) (fun h₁ hns₁ hsb₁ => ?_) hkind)
  dsimp only at hns₁ hsb₁ ⊢
  generalize hH2 : s.heap.push { cls := .type "list", dict := none, data := .seq ([] : List Value).toArray } = H2 at hns₁ hsb₁ ⊢
  have hC : H2.objs.size = s.heap.objs.size + 1 := by rw [← hH2, Heap.size_push]
  have hD0 : H2.get? s.heap.objs.size = some (lstO #[] 0) := by rw [← hH2]; exact Heap.get?_push_size _ rfl
  have nD : s.heap.get? s.heap.objs.size = none := Heap.get?_none_of_le (Nat.le_refl _)
  have nC : s.heap.get? H2.objs.size = none := Heap.get?_none_of_le (by rw [hC]; exact Nat.le_succ _)
  have hNC : N ≤ H2.objs.size := by rw [hC]; exact Nat.le_succ_of_le hN
  have hDC : s.heap.objs.size ≠ H2.objs.size := by rw [hC]; exact Nat.ne_of_lt (Nat.lt_succ_self _)
  generalize H2.objs.size = C at *
  generalize hDD : s.heap.objs.size = D at *
  have old : ∀ b o, s.heap.get? b = some o → h₁.get? b = some o := fun a o e => hsb₁.extBut a o (fun q => by rw [q, nC] at e; cases e) (Heap.get?_push_of_some _ (hH2 ▸ Heap.get?_push_of_some _ e))
  have bD : b.heap.get? D = none := X.new0 nD
  have bC : b.heap.get? C = none := X.new0 nC
  have D4 : D ∉ T4 := X.ok₀.fresh bD
  have C4 : C ∉ T4 := X.ok₀.fresh bC
  have hD₁ : h₁.get? D = some (lstO #[] 0) := hsb₁.extBut _ _ hDC (Heap.get?_push_of_some _ hD0)
  have X₁ : Bx w b { s with heap := h₁, toks := s.toks + ([] : List (Str × Value)).length } := X.grow old
  have st₁ : St 0 { s with heap := h₁, toks := s.toks + ([] : List (Str × Value)).length } := II.frame _ _ _ hst ⟨fun a o _ _ e => old a o e, fun _ _ => rfl⟩
  generalize hs1 : ({ s with heap := h₁, toks := s.toks + ([] : List (Str × Value)).length } : Shared) = s₁ at X₁ st₁ ⊢
  have hns₁' : s₁.heap.Ns C (fun y => ([] : List (Str × Value)).reverse.lookup y) := by rw [← hs1]; exact hns₁
  have hD₁' : s₁.heap.get? D = some (lstO #[] 0) := by rw [← hs1]; exact hD₁
  clear hs1 hns₁ hD₁ hsb₁ old hH2 hD0 hDD nD nC
  have Ic : EnvIs (compEnvC scope cl C env) (relabel scope env).names := compEnv_is Ie hkind
  have hxc : (compEnvC scope cl C env).kindOf x = some .local := lookup_relabel_local hx
  have loop : codeAny (model P0 w) A (.compLoop (.ListComp elt [⟨.Name x px, iter, [], 0⟩] scope pos) 0 (.ref I) (.ref D) (compEnvC scope cl C env)) (RR (.ref D) C) s₁ := by
    refine kcp_loop (fun j s => ∃ i acc k F m, i ≤ n ∧ j = n - i ∧ St i s ∧ Bx w b s ∧ HS F s.heap ∧ s.heap.get? D = some (lstO acc k) ∧ Acc R i F acc ∧ (∀ p ∈ F, p.2.cls ≠ .type "list") ∧ s.heap.Ns C m) ?_ n
      ⟨0, #[], 0, [], _, Nat.zero_le _, rfl, st₁, X₁, HS.nil, hD₁', Acc.nil, fun p hp => (nomatch hp), hns₁'⟩
    rintro j s₂ ⟨i, acc, k, F, m₂, hi, rfl, st₂, X₂, hF, hD, hacc, hFc, hn₂⟩
    rcases Nat.lt_or_ge i n with hlt | hge
    · refine wpAny_mono (wpAny_up hA (II.item i s₂ (fun _ _ => False) hlt st₂ X₂)) (fun o s₃ h₃ => ?_) fun _ _ z => z.elim
      obtain ⟨v, T', rfl, hT, hR, st₃, X₃, M₃⟩ := h₃
      have hn₃ : s₃.heap.Ns C m₂ := let ⟨o, es, ep, e, r⟩ := hn₂; ⟨o, es, ep, M₃.heap _ _ C4 (.inr hNC) e, r⟩
      have hD₃ := M₃.heap _ _ D4 (.inr hN) hD
      have hF₃ := M₃.hs hF
      have Y₃ : Fx w b (compEnvC scope cl C env) ⟨.of false, []⟩ m₂ cm S s₃ := ⟨X₃.ok₀, X₃.ok, X₃.kt, X₃.os, X₃.ge, hn₃, bC, fun k c e => Fx.cellKT (h1 k c e) (h2 _ (mem_of_lookup e)) X₃.kt, h2, h3, fun h => (nomatch h), h4.kt X₃.kt, (fun p h => nomatch h), trivial⟩
      refine wpAny_mono (asg_name hxc hkind Y₃) (fun _ s₄ h₄ => wpAny_mono h₄ (fun _ s₅ h₅ => ?_) fun _ _ z => z.elim) fun _ _ z => z.elim
      obtain ⟨m₅, Y₅, hm₅, k₅, g₅⟩ := h₅
      have hT₅ : HS T' s₅.heap := by
        intro p hp
        obtain ⟨e1, e2, e3⟩ := hT p hp
        refine ⟨k₅ _ _ (fun q => ?_) e1, e2, e3⟩
        obtain ⟨oL, es, ep, eL, dL, _⟩ := id hn₃
        rw [q, show (compEnvC scope cl C env).locals = C from rfl, eL] at e1
        cases e1
        unfold frz at e3
        rw [dL] at e3
        cases e3
      have hF₅ : HS F s₅.heap := by
        intro p hp
        obtain ⟨e1, e2, e3⟩ := hF₃ p hp
        refine ⟨k₅ _ _ (fun q => ?_) e1, e2, e3⟩
        obtain ⟨oL, es, ep, eL, dL, _⟩ := id hn₃
        rw [q, show (compEnvC scope cl C env).locals = C from rfl, eL] at e1
        cases e1
        unfold frz at e3
        rw [dL] at e3
        cases e3
      have hD₅ := k₅ _ _ hDC hD₃
      have st₅ : St (i + 1) s₅ := II.frame _ _ _ st₃ ⟨fun a o l _ e => k₅ a o (fun q => by rw [q] at l; exact Nat.lt_irrefl _ (Nat.lt_of_lt_of_le l hNC)) e, fun _ _ => by rw [g₅]⟩
      obtain ⟨b', Z, kb, ob, gb⟩ := (Y₅.more (T := T') hT₅).rebase
      refine wpAny_mono (helt C i v T' s₅ m₅ b' hR hm₅ Z) (fun y s₆ h₆ => ?_) fun _ _ z => z.elim
      obtain ⟨m₆, S₆, T₆, Y₆, hT₆, hR₆⟩ := h₆
      have hb5 : ∀ a o, a ≠ C → a ∉ T4 → s₅.heap.get? a = some o → s₆.heap.get? a = some o := fun a o n n4 e => Y₆.kt a o n4 (kb a o n e)
      have hD₆ := hb5 _ _ hDC D4 hD₅
      have hFC : ∀ p ∈ F, p.1 ≠ C := fun p hp => Y₅.dictNot' hF₅ hp
      have hF₆ : HS (F ++ T₆) s₆.heap := HS.app (fun p hp => let ⟨e1, e2, e3⟩ := hF₅ p hp; ⟨hb5 _ _ (hFC p hp) e2 e1, e2, e3⟩) (Y₆.has.sub hT₆)
      have hFc₆ : ∀ p ∈ F ++ T₆, p.2.cls ≠ .type "list" := fun p hp => (List.mem_append.mp hp).elim (hFc p) (hRT _ _ _ hR₆ p)
      have st₆ : St (i + 1) s₆ := II.frame _ _ _ st₅ ⟨fun a o l q e => hb5 a o (fun z => by rw [z] at l; exact Nat.lt_irrefl _ (Nat.lt_of_lt_of_le l hNC)) q e, fun g hg => absurd hg (Nat.not_lt_zero _)⟩
      have B₆ : Bx w b s₆ := ⟨X.ok₀, Y₆.ok, fun a o n e => hb5 a o (fun z => by rw [z, bC] at e; cases e) n (Y₅.kt a o n e), by rw [Y₆.os, ob, Y₅.os], Y₅.ge.trans (gb ▸ Y₆.ge)⟩
      · refine wpAny_call_entry slot_list_append (⟨_, hD₆, rfl⟩ : s₆.TypeIs (.ref D) "list") entry_list_append ?_ (args_list_append _ _)
        show wpAny _ _ (updateSeq D (·.push y) >>= fun _ => ret .none) _ _ s₆
        refine wpAny_bind (wpAny_updateSeq hD₆ rfl ?_ ?_ ?_)
        · have hS₂ := Heap.get?_update_self (Obj.mapSeq (·.push y)) hD₆ rfl
          have hxx := (Heap.SameBut.update (h := s₆.heap) (a := D) (f := Obj.mapSeq (·.push y))).extBut
          refine wpAny_pure ⟨.none, rfl, n - (i + 1), by omega, i + 1, acc.push y, _, F ++ T₆, m₆, hlt, rfl, ?_, B₆.upd (t := s₆.toks) bD hD₆ (.seq rfl) hxx, hF₆.updOther (hF₆.notAt hD₆ hFc₆) hxx, hS₂, hacc.push hR₆, hFc₆, Y₆.ns.extBut hxx (Ne.symm hDC)⟩
          exact II.frame _ _ _ st₆ ⟨fun a o l _ e => hxx a o (fun q => by rw [q] at l; exact Nat.lt_irrefl _ (Nat.lt_of_lt_of_le l hN)) e, fun _ _ => rfl⟩
        · rw [sizeLine_eq]; have := hacc.1; omega
        · rw [sizeLine_eq, Array.size_push]; have := hacc.1; omega
    · have : i = n := Nat.le_antisymm hi hge
      subst this
      refine wpAny_mono (wpAny_up hA (II.done s₂ (fun _ _ => False) st₂ X₂)) (fun o s₃ h₃ => ?_) fun _ _ z => z.elim
      obtain ⟨rfl, X₃, M₃⟩ := h₃
      have hn₃ : s₃.heap.Ns C m₂ := let ⟨o, es, ep, e, r⟩ := hn₂; ⟨o, es, ep, M₃.heap _ _ C4 (.inr hNC) e, r⟩
      exact hRR s₃ D C k acc F m₂ X₃ (M₃.heap _ _ D4 (.inr hN) hD) bD bC hDC hn₃ (M₃.hs hF) hFc hacc
  exact codeAny_compStart_list loop (II.self 0 _ _ _ _ st₁ loop)
end
end

section
section
variable {w : World} {A : Around} {E : Value → Shared → Prop} {s₀ s s' b : Shared} {env : Env} {m cm : Str → Option Value} {S : List (Addr × Obj)} {v : Value}

theorem Ns.ncode {h : Heap} {C : Addr} {m : Str → Option Value} (x : h.Ns C m) : ∃ o, h.get? C = some o ∧ frz o = false ∧ notCode o := by
  obtain ⟨o, es, ep, e, d, _⟩ := x
  exact ⟨o, e, by unfold frz; rw [d], fun vs q t tt hh => by rw [d] at q; cases q⟩

theorem Fx.updX {x : Addr} {o : Obj} {b : Bool} {D : List (Addr × Obj)} (X : Fx w s₀ env ⟨.of b, (x, o) :: D⟩ m cm S s) (hx : s₀.heap.get? x = none) (hD : ∀ p ∈ D, p.1 ≠ x) (hS : ∀ p ∈ S, p.1 ≠ x) (nc : notCode o) {h' : Heap} {t : Nat}
    (hs : Heap.ExtBut x s.heap h') : Fx w s₀ env ⟨.of b, D⟩ m cm S { s with heap := h', toks := t } := by
  obtain ⟨e0, e1, e2, e3⟩ := X.dd _ (.head _)
  obtain ⟨ok', kt'⟩ := X.ok₀.upd X.ok X.kt hx e0 nc hs
  refine ⟨X.ok₀, ok', kt', X.os, X.ge, X.ns.extBut hs (Ne.symm e2), X.nsf, ?_, X.cn, X.apart, X.own, ?_, ?_, trivial⟩
  · intro k c' e
    obtain ⟨o, ho, hd⟩ := X.cell k c' e
    exact ⟨o, hs _ _ (fun q => e3 _ (mem_of_lookup e) q) ho, hd⟩
  · intro p hp
    obtain ⟨h1, h2, h3⟩ := X.has p hp
    exact ⟨hs _ _ (hS p hp) h1, h2, h3⟩
  · intro p hp
    obtain ⟨h1, h2, h3⟩ := X.dd p (.tail _ hp)
    exact ⟨hs _ _ (hD p hp) h1, h2, h3⟩

theorem lc_eval {elt iter : Expr} {x : Str} {px pos : Pos} {scope : Scope} {cl : List (Str × Addr)} {names : List (Str × NameKind)} {Q : Value → Shared → Prop}
    (Ie : EnvIs env names) (hclos : closureFor scope env = pure cl) (hkind : scope.kind = .function) (hcell : ∀ y ∈ scope.names, y.2 ≠ .cell)
    (hnames : ∀ y ∈ scope.names, y.2 = .local → scope.names.lookup y.1 = some .local) (hx : scope.names.lookup x = some .local)
    (hs : ∀ x, foldedSetIterable iter env x = pure x)
    (h : wpAny (model P0 w) A (eval iter env) (fun xv s₁ => wpAny (model P0 w) A (pyIter xv) (fun it s₂ => ∃ (b : Shared) (I : Addr) (T₁ : String) (n d : Nat) (R₁ R : Nat → List (Addr × Obj) → Value → Prop) (cm : Str → Option Value) (S : List (Addr × Obj)), it = .ref I ∧ Bx w b s₂ ∧ Ready0 w b I T₁ n d R₁ s₂ ∧ n ≤ 100000 ∧ AO d A ∧
      (∀ n c, cl.lookup n = some c → b.heap.IsCell c (cm n)) ∧ (∀ p ∈ cl, p.2 ∉ T4) ∧ (cl.Pairwise fun x y => x.2 ≠ y.2) ∧ HS S b.heap ∧ (∀ j T v, R j T v → ∀ p ∈ T, p.2.cls ≠ .type "list") ∧
      (∀ C i v T s m' b', R₁ i T v → m' x = some v → Fx w b' (compEnvC scope cl C env) ⟨.of false, []⟩ m' cm (T ++ S) s → wpAny (model P0 w) A (eval elt (compEnvC scope cl C env)) (fun y s' => ∃ m'' S' T', Fx w b' (compEnvC scope cl C env) ⟨.of false, []⟩ m'' cm S' s' ∧ (∀ p ∈ T', p ∈ S') ∧ R i T' y) (fun _ _ => False) s) ∧
      (∀ s' D k acc F, Bx w b s' → HS ((D, lstO acc k) :: F) s'.heap → Acc R n F acc → b.heap.get? D = none → Q (.ref D) s')) E s₁) E s) :
    wpAny (model P0 w) A (eval (.ListComp elt [⟨.Name x px, iter, [], 0⟩] scope pos) env) Q E s := by
  rw [eval_ListComp]
  refine wpAny_comprehension_free (use := none) rfl hs hclos hkind hnames (wpAny_mono h (fun xv s₁ h₁ => wpAny_mono h₁ (fun it s₂ h₂ => ?_) fun _ _ e => e) fun _ _ e => e)
  obtain ⟨b, I, T₁, n, d, R₁, R, cm, S, rfl, X, I₀, hn, hA, h1, h2, h3, h4, hRT, helt, hQ⟩ := h₂
  refine lc_core (RR := fun acc C => compPost (model P0 w) A E none Q acc C) Ie X I₀ hn hA hkind hcell hx h1 h2 h3 h4 hRT helt ?_
  intro s' D C k acc F m' X' hD bD bC hDC hnC hF hFc hacc
  refine ⟨m', hnC, fun h' hs' => ?_⟩
  obtain ⟨oC, eC, fC, ncC⟩ := Ns.ncode hnC
  refine hQ _ D k acc F (X'.upd (t := s'.toks) bC eC ncC hs'.extBut) ?_ hacc bD
  have D4 : D ∉ T4 := X.ok₀.fresh bD
  refine HS.cons (hF.updOther (fun p hp q => ?_) hs'.extBut) (hs'.extBut _ _ hDC hD) D4 rfl
  obtain ⟨a, _, f⟩ := hF p hp
  rw [q, eC] at a; cases a; rw [fC] at f; cases f

theorem lc_assign {elt iter : Expr} {x y : Str} {px py pos spos : Pos} {scope : Scope} {cl : List (Str × Addr)} {names : List (Str × NameKind)} {Q : Flow → Shared → Prop}
    (hsw : swapsWith (.ListComp elt [⟨.Name x px, iter, [], 0⟩] scope pos) (some (.Name y py)) spos.line env = pure true)
    (Ie : EnvIs env names) (hclos : closureFor scope env = pure cl) (hkind : scope.kind = .function) (hcell : ∀ y ∈ scope.names, y.2 ≠ .cell)
    (hnames : ∀ y ∈ scope.names, y.2 = .local → scope.names.lookup y.1 = some .local) (hx : scope.names.lookup x = some .local) (hy : names.lookup y = some .local)
    (hs : ∀ x, foldedSetIterable iter env x = pure x)
    (h : wpAny (model P0 w) A (eval iter env) (fun xv s₁ => wpAny (model P0 w) A (pyIter xv) (fun it s₂ => ∃ (b s₀ : Shared) (m₀ cm₀ : Str → Option Value) (S₀ : List (Addr × Obj)) (I : Addr) (T₁ : String) (n d : Nat) (R₁ R : Nat → List (Addr × Obj) → Value → Prop) (cm : Str → Option Value) (S : List (Addr × Obj)), it = .ref I ∧ Bx w b s₂ ∧ Ready0 w b I T₁ n d R₁ s₂ ∧ n ≤ 100000 ∧ AO d A ∧
      (∀ n c, cl.lookup n = some c → b.heap.IsCell c (cm n)) ∧ (∀ p ∈ cl, p.2 ∉ T4) ∧ (cl.Pairwise fun x y => x.2 ≠ y.2) ∧ HS S b.heap ∧ (∀ j T v, R j T v → ∀ p ∈ T, p.2.cls ≠ .type "list") ∧
      (∀ C i v T s m' b', R₁ i T v → m' x = some v → Fx w b' (compEnvC scope cl C env) ⟨.of false, []⟩ m' cm (T ++ S) s → wpAny (model P0 w) A (eval elt (compEnvC scope cl C env)) (fun y s' => ∃ m'' S' T', Fx w b' (compEnvC scope cl C env) ⟨.of false, []⟩ m'' cm S' s' ∧ (∀ p ∈ T', p ∈ S') ∧ R i T' y) (fun _ _ => False) s) ∧
      Fx w s₀ env ⟨.of true, []⟩ m₀ cm₀ S₀ b ∧ (∀ q ∈ env.cells, ∃ v, b.heap.IsCell q.2 v) ∧
      (∀ s' D k acc F, Fx w s₀ env ⟨.of true, []⟩ (fun z => if z = y then some (.ref D) else m₀ z) cm₀ ((D, lstO acc k) :: (F ++ S₀)) s' → Acc R n F acc → Q .next s')) E s₁) E s) :
    wpAny (model P0 w) A (exec (.Assign [.Name y py] (.ListComp elt [⟨.Name x px, iter, [], 0⟩] scope pos) spos) env) Q E s := by
  rw [exec_Assign_Name_used _ _ _ _ hsw]
  refine wpAny_bind (wpAny_standAt (wpAny_bind ?_))
  show wpAny _ A (do let _ ← comprehension (.ListComp elt [⟨.Name x px, iter, [], 0⟩] scope pos) scope env _ (newList []) false (eval iter env) (some (assign (.Name y py) env))) _ _ s
  refine wpAny_bind (wpAny_mono (wpAny_comprehension_free (use := some (assign (.Name y py) env)) (Q := fun _ s' => Q .next s') rfl hs hclos hkind hnames
    (wpAny_mono h (fun xv s₁ h₁ => wpAny_mono h₁ (fun it s₂ h₂ => ?_) fun _ _ e => e) fun _ _ e => e)) (fun _ s' hq => wpAny_pure (wpAny_pure hq)) fun _ _ e => e)
  obtain ⟨b, s₀, m₀, cm₀, S₀, I, T₁, n, d, R₁, R, cm, S, rfl, X, I₀, hn, hA, h1, h2, h3, h4, hRT, helt, XF, hcells, hQ⟩ := h₂
  refine lc_core (RR := fun acc C => compPost (model P0 w) A E (some (assign (.Name y py) env)) (fun _ s' => Q .next s') acc C) Ie X I₀ hn hA hkind hcell hx h1 h2 h3 h4 hRT helt ?_
  intro s' D C k acc F m' X' hD bD bC hDC hnC hF hFc hacc
  have hp : (env.scope.kind == .class || (env.scope.kind == .module && env.locals != env.globals)) = false := by rw [Ie.kind]; rfl
  have D4 : D ∉ T4 := X.ok₀.fresh bD
  have C4 : C ∉ T4 := X.ok₀.fresh bC
  obtain ⟨oC, eC, fC, ncC⟩ := Ns.ncode hnC
  have X₁ : Fx w s₀ env ⟨.of true, []⟩ m₀ cm₀ ((D, lstO acc k) :: (F ++ S₀)) s' := (XF.step X'.ok X'.kt X'.os X'.ge).more (T := (D, lstO acc k) :: F) (HS.cons hF hD D4 rfl)
  have hLC : C ≠ env.locals := fun q => by
    obtain ⟨o, _, _, e, _⟩ := XF.ns
    rw [← q, bC] at e; cases e
  have X₂ := X₁.addD (D' := [(C, oC)]) (fun p hp => by
    rw [List.mem_singleton.mp hp]
    refine ⟨eC, C4, hLC, fun q hq e => ?_⟩
    obtain ⟨v, o, hc, _⟩ := hcells q hq
    rw [show q.2 = C from e, bC] at hc; cases hc)
  show wpAny _ A (assign (.Name y py) env (.ref D)) _ _ _
  refine wpAny_assign_Name (wpAny_storeName_local (Ie.kindOf hy) X₂.ns (fun h₂ hn₂ hs₂ => ?_) hp)
  have X₃ := X₂.storeL (t := s'.toks + 1) hn₂ hs₂
  have hnC₂ : h₂.Ns C m' := hnC.sameBut hs₂ hLC
  refine ⟨m', hnC₂, fun h₃ hs₃ => ?_⟩
  have bCs : s₀.heap.get? C = none := XF.bx.new0 bC
  have hdd := X₃.dd _ (.head _)
  exact hQ _ D k acc F (X₃.updX (h' := h₃) (t := s'.toks + 1) bCs (fun p hp => by cases hp) (fun p hp => X₃.dictNot hp hdd.1 fC) ncC hs₃.extBut) hacc
end
end

section
theorem relabel_is {env : Env} {names : List (Str × NameKind)} {scope : Scope} {cl : List (Str × Addr)} {C : Addr} (I : EnvIs env names) (hk : scope.kind = .function) :
    EnvIs (compEnvC scope cl C env) (scope.names.map fun y => if (y.2 == NameKind.free && names.lookup y.1 == some .cell) then (y.1, NameKind.cell) else y) := by
  refine ⟨hk, I.glob, I.blt, ?_⟩
  show (relabel scope env).names = _
  unfold relabel
  dsimp only
  refine List.map_congr_left fun y _ => ?_
  obtain ⟨n, k⟩ := y
  have e1 : env.kindOf n = names.lookup n := by rw [← I.names]; rfl
  dsimp only
  rw [I.kind, e1, show (ScopeKind.function == ScopeKind.function) = true from rfl, Bool.and_true]
theorem relabel_fx {w : World} {b s : Shared} {env : Env} {names : List (Str × NameKind)} {scope : Scope} {cl : List (Str × Addr)} {C : Addr} {ow : Ow} {m cm : Str → Option Value} {S : List (Addr × Obj)} (_ : Fx w b (compEnvC scope cl C env) ow m cm S s) (I : EnvIs env names) (hk : scope.kind = .function) :
    EnvIs (compEnvC scope cl C env) (scope.names.map fun y => if (y.2 == NameKind.free && names.lookup y.1 == some .cell) then (y.1, NameKind.cell) else y) := relabel_is I hk

/-- a plain list of pairs -/
def PL (B : List (Addr × Obj)) (l : Addr) (ps : List (Int × Str)) : Prop := ∃ items : Array Value, ∃ k, (l, lstO items k) ∈ B ∧ items.size = ps.length ∧
  ∀ (j : Nat) (r : Value), items[j]? = some r → ∃ a tc ty kk p, (ps[j]? : Option (Int × Str)) = some p ∧ r = .ref a ∧ (a, ({ cls := .type "tuple", data := .seq #[.int p.1 tc, .str p.2 ty] kk } : Obj)) ∈ B
theorem PL.pt {B : List (Addr × Obj)} {l : Addr} {ps : List (Int × Str)} (h : PL B l ps) : PT B l ps := let ⟨items, k, h1, h2, h3⟩ := h; ⟨_, items, k, h1, ⟨.inr rfl, rfl⟩, h2, h3⟩
theorem PL.sub {B B' : List (Addr × Obj)} {l : Addr} {ps : List (Int × Str)} (h : PL B l ps) (k : ∀ p ∈ B, p ∈ B') : PL B' l ps :=
  let ⟨items, n, h1, h2, h3⟩ := h; ⟨items, n, k _ h1, h2, fun j r e => let ⟨a, tc, ty, kk, p, x, y, z⟩ := h3 j r e; ⟨a, tc, ty, kk, p, x, y, k _ z⟩⟩
def pairDat (p : Int × Str) : Dat := .tuple [.int p.1, .str p.2]
theorem datAll_of {B : List (Addr × Obj)} : ∀ (vs : List Value) (ds : List Dat), vs.length = ds.length → (∀ (j : Nat) (v : Value), vs[j]? = some v → ∃ d, ds[j]? = some d ∧ DatIn B v d) → DatAll B vs ds
  | [], [], _, _ => .nil
  | [], _ :: _, h, _ => by cases h
  | _ :: _, [], h, _ => by cases h
  | v :: vs, d :: ds, h, k => by
    obtain ⟨d', e, x⟩ := k 0 v rfl
    cases e
    exact .cons x (datAll_of vs ds (Nat.succ.inj h) fun j v e => k (j + 1) v e)
theorem PL.dat {B : List (Addr × Obj)} {l : Addr} {ps : List (Int × Str)} (h : PL B l ps) : DatIn B (.ref l) (.list (ps.map pairDat)) := by
  obtain ⟨items, k, h1, h2, h3⟩ := h
  have h1' : (l, listOf items.toList.toArray k) ∈ B := by rw [Array.toArray_toList]; exact h1
  refine .list h1' (datAll_of _ _ (by rw [List.length_map]; simpa using h2) fun j v e => ?_)
  obtain ⟨a, tc, ty, kk, p, x, rfl, z⟩ := h3 j v (by rw [← Array.getElem?_toList]; exact e)
  exact ⟨pairDat p, by rw [List.getElem?_map, x]; rfl, .tuple (vs := [.int p.1 tc, .str p.2 ty]) z (.cons (.int _ _) (.cons (.str _ _) .nil))⟩
/-- what a comprehension gives: a pair for each -/
def pairA (ps : List (Int × Str)) : Nat → List (Addr × Obj) → Value → Prop := fun i T y => ∃ a tc ty kk p, (ps[i]? : Option (Int × Str)) = some p ∧ y = .ref a ∧ T = [(a, ({ cls := .type "tuple", data := .seq #[.int p.1 tc, .str p.2 ty] kk } : Obj))]
theorem pairA_cls {ps : List (Int × Str)} : ∀ j T v, pairA ps j T v → ∀ p ∈ T, p.2.cls ≠ .type "list" := by
  rintro j T v ⟨a, tc, ty, kk, p, _, _, rfl⟩ q hq
  rw [List.mem_singleton.mp hq]; exact fun e => absurd (Value.type.inj e) (by decide)
theorem PL.of {ps : List (Int × Str)} {F : List (Addr × Obj)} {acc : Array Value} {D : Addr} {k : Nat} (h : Acc (pairA ps) ps.length F acc) : PL ((D, lstO acc k) :: F) D ps := by
  refine ⟨acc, k, .head _, h.1, fun j r e => ?_⟩
  obtain ⟨T, hT, a, tc, ty, kk, p, x, y, rfl⟩ := h.2 j r e
  exact ⟨a, tc, ty, kk, p, x, y, .tail _ (hT _ (.head _))⟩

abbrev pairsD : Stmt := topS 24
theorem fnPairs (w : World) : ∃ oc od fd sl, (KF w).lookup 519 = some ⟨oc, od, .func fd, sl⟩ ∧ FnOk w fd (bodyOf pairsD) (namesOf pairsD) false ∧ fd.closure = [] ∧ ∀ a, bindArgs fd ⟨[a], []⟩ = (pure [(("tags" : Str), a)] : Sem (List (Str × Value))) :=
  ⟨_, _, _, _, rfl, ⟨by kernel_rfl, by kernel_rfl, by kernel_rfl, by kernel_rfl, by kernel_rfl, by kernel_rfl, by kernel_rfl, by kernel_rfl⟩, by kernel_rfl, fun a => by kernel_rfl⟩

section
variable {w : World} {A : Around} {E : Value → Shared → Prop} {s₀ s s' b : Shared} {env : Env} {m cm : Str → Option Value} {S : List (Addr × Obj)} {v : Value} {dd : Nat}

theorem pairs_spec {t : Addr} {ps : List (Int × Str)} (ok : Ok w s.heap) (hS : HS S s.heap) (ht : TP S t ps) (hA : AO (dd + 11) A) (hd : dd + 10 ≤ 122) (hn : ps.length ≤ 100000) :
    wpAny (model P0 w) A (call (.ref 519) [.ref t]) (Ret w s (fun S' v => ∃ l, v = .ref l ∧ PL S' l ps)) E s := by
  obtain ⟨oc, od, fd, sl, hlook, F, hclo, hb⟩ := fnPairs w
  refine callF ok hS (d := dd + 10) hA hlook F hclo (BindsTo.of_eq (hb _)) (by rfl) ?_
  intro env s₁ L m cm I hc hcode hq hA' hm hcm X
  have hm1 := (hm "tags" (by rfl)).trans (show _ = some (Value.ref t) from rfl)
  obtain ⟨ol, items, k, htS, hso, hsz, hit⟩ := ht
  walk_at "m1"
  refine wpAny_Return_some ?_
  refine lc_eval I (closureFor_none (by decide)) (by rfl) (by decide) (by decide) (by rfl) (by intro _; rfl) ?_
  walk_at "m1"
  have hlt := X.has _ htS
  refine iter_T0 X.ok hlt.1 hso ?_
  refine ⟨s₁, _, _, _, dd + 10, _, pairA ps, fun _ => none, S, rfl, (Bx.self X.ok).grow (t := s₁.toks) (fun a o e => Heap.get?_push_of_some _ e), Ready0.list X.ok hlt.1 hso.data hlt.2.1 hd, by omega, hA', (fun n c e => by cases e), (fun p hp => by cases hp), .nil, X.has, pairA_cls, ?_, ?_⟩
  · intro C i v T s₂ m₂ b' hR hmx Y
    obtain ⟨rfl, hv⟩ := hR
    obtain ⟨p, tc, ty, hp, hr⟩ := hit i v hv
    have Ic := relabel_fx Y I (by rfl)
    clear I X
    iterate 4 (walk_at "m1")
    refine tag_code0 (d := dd) Y.ok Y.has hr (hA'.le (by omega)) rfl fun s₃ r₃ => ?_
    have Y₃ := Y.step r₃.ok r₃.kt r₃.os r₃.ge
    iterate 3 (walk_at "m1")
    refine tag_value0 (d := dd) Y₃.ok Y₃.has hr (hA'.le (by omega)) rfl fun s₄ r₄ => ?_
    have Y₄ := Y₃.step r₄.ok r₄.kt r₄.os r₄.ge
    refine spliced_none ?_
    walk_at "m1"
    rename_i a s₅ Y₅
    exact ⟨_, _, _, Y₅, fun p hp => List.mem_singleton.mp hp ▸ .head _, a, tc, ty, 0, p, hp, rfl, rfl⟩
  · intro s₂ D k₂ acc F₂ X₂ hF₂ hacc hD₂
    rw [hsz] at hacc
    exact (X.bx.trans X₂).ret hF₂ ⟨D, rfl, PL.of hacc⟩
end
end

section
abbrev framedD : Stmt := topS 25
theorem fnFramed (w : World) : ∃ oc od fd sl, (KF w).lookup 524 = some ⟨oc, od, .func fd, sl⟩ ∧ FnOk w fd (bodyOf framedD) (namesOf framedD) false ∧ fd.closure = [] ∧ ∀ a b, bindArgs fd ⟨[a, b], []⟩ = (pure [(("name" : Str), a), (("tags" : Str), b)] : Sem (List (Str × Value))) :=
  ⟨_, _, _, _, rfl, ⟨by kernel_rfl, by kernel_rfl, by kernel_rfl, by kernel_rfl, by kernel_rfl, by kernel_rfl, by kernel_rfl, by kernel_rfl⟩, by kernel_rfl, fun a b => by kernel_rfl⟩
abbrev endsD : Stmt := topS 21
theorem fnEnds (w : World) : ∃ oc od fd sl, (KF w).lookup 506 = some ⟨oc, od, .func fd, sl⟩ ∧ FnOk w fd (bodyOf endsD) (namesOf endsD) false ∧ fd.closure = [] ∧ bindArgs fd ⟨[], []⟩ = (pure [] : Sem (List (Str × Value))) :=
  ⟨_, _, _, _, rfl, ⟨by kernel_rfl, by kernel_rfl, by kernel_rfl, by kernel_rfl, by kernel_rfl, by kernel_rfl, by kernel_rfl, by kernel_rfl⟩, by kernel_rfl, by kernel_rfl⟩

section
variable {w : World} {A : Around} {E : Value → Shared → Prop} {s₀ s s' b : Shared} {env : Env} {ow : Ow} {m cm : Str → Option Value} {S : List (Addr × Obj)} {v : Value} {dd : Nat}

theorem o_ladd {l r : Addr} {xs ys : Array Value} {n n2 : Nat} {Q : Value → Shared → Prop} (X : Fx w s₀ env ow m cm S s) (h1 : (l, lstO xs n) ∈ S) (h2 : (r, lstO ys n2) ∈ S) (hsz : xs.size + ys.size ≤ 200000)
    (h : ∀ D s', Fx w s₀ env ow m cm ((D, lstO (xs ++ ys) 0) :: S) s' → Q (.ref D) s') : wpAny (model P0 w) A (binaryOp .Add (.ref l) (.ref r)) Q E s := by
  refine PySem.P.add_list (n := n) (n2 := n2) (X.has _ h1).1 (X.has _ h2).1 ?_ (by rw [sizeLine_eq]; omega)
  exact h _ _ (X.push (lstO (xs ++ ys) 0) s.toks)

theorem PL.app {B : List (Addr × Obj)} {xs ys : Array Value} {ps qs : List (Int × Str)} (hx : xs.size = ps.length) (hy : ys.size = qs.length)
    (h1 : ∀ (j : Nat) (r : Value), xs[j]? = some r → ∃ a tc ty kk p, (ps[j]? : Option (Int × Str)) = some p ∧ r = .ref a ∧ (a, ({ cls := .type "tuple", data := .seq #[.int p.1 tc, .str p.2 ty] kk } : Obj)) ∈ B)
    (h2 : ∀ (j : Nat) (r : Value), ys[j]? = some r → ∃ a tc ty kk p, (qs[j]? : Option (Int × Str)) = some p ∧ r = .ref a ∧ (a, ({ cls := .type "tuple", data := .seq #[.int p.1 tc, .str p.2 ty] kk } : Obj)) ∈ B) :
    (xs ++ ys).size = (ps ++ qs).length ∧ ∀ (j : Nat) (r : Value), (xs ++ ys)[j]? = some r → ∃ a tc ty kk p, ((ps ++ qs)[j]? : Option (Int × Str)) = some p ∧ r = .ref a ∧ (a, ({ cls := .type "tuple", data := .seq #[.int p.1 tc, .str p.2 ty] kk } : Obj)) ∈ B := by
  refine ⟨by rw [Array.size_append, List.length_append, hx, hy], fun j r e => ?_⟩
  rw [Array.getElem?_append] at e
  split at e
  · rename_i hlt
    obtain ⟨a, tc, ty, kk, p, q, u, v⟩ := h1 j r e
    exact ⟨a, tc, ty, kk, p, by rw [List.getElem?_append_left (hx ▸ hlt)]; exact q, u, v⟩
  · rename_i hge
    obtain ⟨a, tc, ty, kk, p, q, u, v⟩ := h2 _ r e
    exact ⟨a, tc, ty, kk, p, by rw [List.getElem?_append_right (by omega), ← hx]; exact q, u, v⟩

/-- two lists of pairs, joined -/
theorem pl_add {l r : Addr} {ps qs : List (Int × Str)} {Q : Value → Shared → Prop} (X : Fx w s₀ env ow m cm S s) (h1 : PL S l ps) (h2 : PL S r qs) (hsz : ps.length + qs.length ≤ 200000)
    (h : ∀ D o s', Fx w s₀ env ow m cm ((D, o) :: S) s' → PL ((D, o) :: S) D (ps ++ qs) → Q (.ref D) s') : wpAny (model P0 w) A (binaryOp .Add (.ref l) (.ref r)) Q E s := by
  obtain ⟨xs, k, a1, a2, a3⟩ := h1
  obtain ⟨ys, k2, b1, b2, b3⟩ := h2
  refine o_ladd X a1 b1 (by omega) fun D s' X' => h D _ s' X' ?_
  obtain ⟨c1, c2⟩ := PL.app a2 b2 a3 b3
  exact ⟨_, 0, .head _, c1, fun j r e => let ⟨a, tc, ty, kk, p, q, u, v⟩ := c2 j r e; ⟨a, tc, ty, kk, p, q, u, .tail _ v⟩⟩
theorem PL.one {B : List (Addr × Obj)} {D a : Addr} {c : Int} {x : Str} {tc tx : Tok} {n kk : Nat} (h : (D, lstO #[.ref a] n) ∈ B) (h2 : (a, ({ cls := .type "tuple", data := .seq #[.int c tc, .str x tx] kk } : Obj)) ∈ B) : PL B D [(c, x)] := by
  refine ⟨_, n, h, rfl, fun j r e => ?_⟩
  cases j with
  | zero => cases e; exact ⟨a, tc, tx, kk, (c, x), rfl, rfl, h2⟩
  | succ j => simp at e

theorem PL.oneX {D a : Addr} {c : Int} {x : Str} {tc tx : Tok} {n kk : Nat} (_ : Fx w s₀ env ow m cm ((D, lstO #[.ref a] n) :: (a, ({ cls := .type "tuple", data := .seq #[.int c tc, .str x tx] kk } : Obj)) :: S) s) :
    PL ((D, lstO #[.ref a] n) :: (a, ({ cls := .type "tuple", data := .seq #[.int c tc, .str x tx] kk } : Obj)) :: S) D [(c, x)] := PL.one (.head _) (.tail _ (.head _))

theorem framed_spec {t : Addr} {ps : List (Int × Str)} {nm : Str} {tn : Tok} (ok : Ok w s.heap) (hS : HS S s.heap) (ht : TP S t ps) (hA : AO (dd + 11) A) (hd : dd + 10 ≤ 122) (hn : ps.length ≤ 50000) (hnm : nm.length ≤ 1000) :
    wpAny (model P0 w) A (call (.ref 524) [.str nm tn, .ref t]) (Ret w s (fun S' v => ∃ l, v = .ref l ∧ PL S' l ([(1000, nm ++ "_BEGIN")] ++ ps.map (fun p => (1000, p.2)) ++ [(1000, nm ++ "_END")]))) E s := by
  obtain ⟨oc, od, fd, sl, hlook, F, hclo, hb⟩ := fnFramed w
  refine callF ok hS (d := dd + 10) hA hlook F hclo (BindsTo.of_eq (hb _ _)) (by rfl) ?_
  intro env s₁ L m cm I hc hcode hq hA' hm hcm X
  have hm1 := (hm "name" (by rfl)).trans (show _ = some (Value.str nm tn) from rfl)
  have hm2 := (hm "tags" (by rfl)).trans (show _ = some (Value.ref t) from rfl)
  have hl1 : (Str.ofString "_BEGIN").length = 6 := rfl
  have hl2 : (Str.ofString "_END").length = 4 := rfl
  obtain ⟨ol, items, k, htS, hso, hsz, hit⟩ := ht
  repeat (walk_at "m1")
  rename_i tup s₂ X₂ l₁ s₃ X₃
  have hp₁ := PL.oneX X₃
  refine lc_eval I (closureFor_none (by decide)) (by rfl) (by decide) (by decide) (by rfl) (by intro _; rfl) ?_
  walk_at "m1"
  have hlt := X₃.has _ (List.mem_cons_of_mem _ (List.mem_cons_of_mem _ htS))
  refine iter_T0 X₃.ok hlt.1 hso ?_
  refine ⟨s₃, _, _, _, dd + 10, _, pairA (ps.map fun p => (1000, p.2)), fun _ => none, S, rfl, (Bx.self X₃.ok).grow (t := s₃.toks) (fun a o e => Heap.get?_push_of_some _ e), Ready0.list X₃.ok hlt.1 hso.data hlt.2.1 hd, by omega, hA', (fun n c e => by cases e), (fun p hp => by cases hp), .nil, (X₃.less fun p hp => .tail _ (.tail _ hp)).has, pairA_cls, ?_, ?_⟩
  · intro C i v T s₂ m₂ b' hR hmx Y
    obtain ⟨rfl, hv⟩ := hR
    obtain ⟨p, tc, ty, hp, hr⟩ := hit i v hv
    have Ic := relabel_fx Y I (by rfl)
    clear I X X₂ X₃
    iterate 6 (walk_at "m1")
    rename_i s₃ Y₃
    refine tag_value0 (d := dd) Y₃.ok Y₃.has hr (hA'.le (by omega)) rfl fun s₄ r₄ => ?_
    have Y₄ := Y₃.step r₄.ok r₄.kt r₄.os r₄.ge
    refine spliced_none ?_
    walk_at "m1"
    rename_i a s₅ Y₅
    exact ⟨_, _, _, Y₅, fun p hp => List.mem_singleton.mp hp ▸ .head _, a, _, ty, 0, (1000, p.2), by rw [List.getElem?_map, hp]; rfl, rfl, rfl⟩
  · intro s₄ D k₂ acc F₂ X₄ hF₂ hacc hD₂
    rw [hsz, ← List.length_map (as := ps) (f := fun p => ((1000 : Int), p.2))] at hacc
    have X₅ := (X₃.step X₄.ok X₄.kt X₄.os X₄.ge).more hF₂
    refine pl_add X₅ (hp₁.sub fun p hp => List.mem_append_right _ hp) ((PL.of hacc).sub fun p hp => List.mem_append_left _ hp) (by simp; omega) fun D₆ o₆ s₆ X₆ hp₆ => ?_
    repeat (walk_at "m1")
    rename_i tup₈ s₈ X₈ l₉ s₉ X₉
    refine pl_add X₉ (hp₆.sub fun p hp => .tail _ (.tail _ hp)) (PL.oneX X₉) (by simp; omega) fun D₇ o₇ s₇ X₇ hp₇ => ?_
    exact X₇.ret ⟨D₇, rfl, hp₇⟩
end
end

section
section
variable {w : World} {A : Around} {E : Value → Shared → Prop} {s₀ s s' b : Shared} {env : Env} {ow : Ow} {m cm : Str → Option Value} {S : List (Addr × Obj)} {v : Value} {dd : Nat}

def endsL : List Str := ["^J", "^K", "^^", "Jo"]
theorem ends_spec (ok : Ok w s.heap) (hS : HS S s.heap) (hA : AO (dd + 11) A) (h0 : 0 < s.toks) :
    wpAny (model P0 w) A (call (.ref 506) []) (fun v s' => Ret w s (fun S' v => ∃ l k, ∃ items : Array Value, v = .ref l ∧ (l, lstO items k) ∈ S' ∧ items.size = 4 ∧ ∀ (j : Nat) (y : Value), items[j]? = some y → ∃ x t, endsL[j]? = some x ∧ y = .str x t ∧ t ≠ 0 ∧ t < s'.toks) v s') E s := by
  obtain ⟨oc, od, fd, sl, hlook, F, hclo, hb⟩ := fnEnds w
  refine wpAny_call (codeAny_mono (callQT (E := fun _ _ => False) (d := dd + 10) (D := []) (Q := fun v s' => Ret w s (fun S' v => ∃ l k, ∃ items : Array Value, v = .ref l ∧ (l, lstO items k) ∈ S' ∧ items.size = 4 ∧ ∀ (j : Nat) (y : Value), items[j]? = some y → ∃ x t, endsL[j]? = some x ∧ y = .str x t ∧ t ≠ 0 ∧ t < s'.toks) v s') ok hS HD.nil hA hlook F hclo (BindsTo.of_eq hb) (by rfl) ?_) ?_)
  · intro env s₁ L m cm I hc hcode hq hA' hm hcm X ht
    have h1 : (0 : Nat) < s₁.toks := Nat.lt_of_lt_of_le h0 ht
    walk_at "m1"
    walk_at "m1"
    walk_at "m1"
    refine spliced_more ?_
    refine wpAny_Constant_str ?_
    refine spliced_more ?_
    refine wpAny_Constant_str ?_
    refine spliced_more ?_
    refine wpAny_Constant_str ?_
    refine spliced_more ?_
    refine wpAny_Constant_str ?_
    refine spliced_none ?_
    refine wpAny_newList ?_ (by rw [sizeLine_eq]; show 4 ≤ 16777216; decide)
    have X₂ := (X.tok (s₁.toks + 1 + 1 + 1 + 1)).push (lstO #[.str "^J" s₁.toks, .str "^K" (s₁.toks + 1), .str "^^" (s₁.toks + 1 + 1), .str "Jo" (s₁.toks + 1 + 1 + 1)] 0) (s₁.toks + 1 + 1 + 1 + 1)
    refine X₂.ret ⟨_, _, _, rfl, .head _, rfl, fun j y e => ?_⟩
    have lift : ∀ t : Nat, 0 < t → t < s₁.toks + 1 + 1 + 1 + 1 → t ≠ 0 ∧ t < s₁.toks + 1 + 1 + 1 + 1 := fun t a b => ⟨Nat.ne_of_gt a, b⟩
    rcases j with _ | _ | _ | _ | j
    · cases e; exact ⟨_, _, rfl, rfl, lift _ h1 (by omega)⟩
    · cases e; exact ⟨_, _, rfl, rfl, lift _ (by omega) (by omega)⟩
    · cases e; exact ⟨_, _, rfl, rfl, lift _ (by omega) (by omega)⟩
    · cases e; exact ⟨_, _, rfl, rfl, lift _ (by omega) (by omega)⟩
    · simp at e
  · rintro r s' ⟨v, rfl, hq⟩
    exact hq
end
end

section
section
variable {w : World} {A : Around} {E : Value → Shared → Prop} {s₀ s s' b : Shared} {env : Env} {ow : Ow} {m cm : Str → Option Value} {S : List (Addr × Obj)} {v : Value} {dd : Nat}

/-- the range's walk -/
theorem Itr.range {I : Addr} {N n d : Nat} {c : Int} (hb : b.heap.get? I = none) (hI : I < N) (hd : d ≤ 122) :
    Itr w b I "range_iterator" N 0 n d (fun i T v => T = [] ∧ i < n ∧ ∃ t, v = .int ((i : Int) * c) t) (fun i s => IsRangeIter s.heap I ((i : Int) * c) ((n : Int) - i) c ∧ I ∉ T4) where
  frame := fun i s s' ⟨h, n4⟩ f => ⟨f.heap _ _ hI n4 h, n4⟩
  item := fun i s E hi ⟨h, n4⟩ X => by
    refine wpAny_pyNext_range_item h (by omega) fun h' hr hs => ?_
    refine ⟨_, [], rfl, HS.nil, ⟨rfl, hi, _, rfl⟩, ⟨?_, n4⟩, X.upd (t := s.toks + 1) hb h (fun vs e q t hh => by cases e; cases hh) hs.extBut, Mv.upd (t := s.toks + 1) h hI rfl hs.extBut⟩
    have e1 : (((i + 1 : Nat) : Int) * c) = (i : Int) * c + c := by rw [Int.natCast_add, Int.add_mul]; simp
    have e2 : (n : Int) - ((i + 1 : Nat) : Int) = (n : Int) - i - 1 := by omega
    rw [e1, e2]; exact hr
  done := fun s E ⟨h, n4⟩ X => by
    refine wpAny_pyNext_range_end rfl h (by omega) fun h' hs => ?_
    exact ⟨rfl, X.upd (t := s.toks) hb h (fun vs e q t hh => by cases e; cases hh) hs, Mv.upd (t := s.toks) h hI rfl hs⟩
  self := fun i s A E Q ⟨h, n4⟩ q => by
    exact wpAny_pyIter_rangeiter h q
  type := fun i s ⟨h, _⟩ => ⟨_, h, rfl⟩
  lt := hI

/-- list(x) of a list -/
theorem o_list {l : Addr} {ol : Obj} {items : Array Value} {k : Nat} {Q : Value → Shared → Prop} (X : Fx w s₀ env ow m cm S s) (hl : s.heap.get? l = some ol) (hc : ol.cls = .type "list") (hd : ol.data = .seq items k) (hz : items.size ≤ 200000)
    (h : ∀ D c' s', Fx w s₀ env ow m cm ((D, lstO items c') :: S) s' → Q (.ref D) s') : wpAny (model P0 w) A (call (.type "list") [.ref l]) Q E s := by
  refine call_list_seq l (T := "list") (.inl rfl) hl hc hd (fun h' c' hk hD => ?_) (by rw [sizeLine_eq]; omega)
  have nD : s.heap.get? s.heap.objs.size = none := Heap.get?_none_of_le (Nat.le_refl _)
  have X₁ := X.grow (t := s.toks) hk
  exact h _ c' _ (X₁.more (T := [(s.heap.objs.size, lstO items c')]) (HS.cons HS.nil hD (X.ok.fresh nD) rfl))

theorem o_tupleOf {l : Addr} {items : Array Value} {k : Nat} {Q : Value → Shared → Prop} (X : Fx w s₀ env ow m cm S s) (hl : (l, lstO items k) ∈ S) (hz : items.size ≤ 200000)
    (h : ∀ D s', Fx w s₀ env ow m cm ((D, ({ cls := .type "tuple", data := .seq items } : Obj)) :: S) s' → Q (.ref D) s') : wpAny (model P0 w) A (call (.type "tuple") [.ref l]) Q E s := by
  refine call_tuple_list ⟨_, (X.has _ hl).1, rfl, k, rfl⟩ (fun h' hk => ?_) (by rw [sizeLine_eq]; omega)
  exact h _ _ ((X.grow (t := s.toks) hk).push { cls := .type "tuple", data := .seq items } s.toks)

/-- an item of a list -/
theorem o_item {l : Addr} {ol : Obj} {items : Array Value} {k : Nat} {i : Int} {u : Tok} {x : Value} {value slice : Expr} {Q : Value → Shared → Prop} (X : Fx w s₀ env ow m cm S s) (hl : s.heap.get? l = some ol) (hs : SeqO ol items k) (h0 : 0 ≤ i) (hfit : i < 2 ^ 63) (hx : items[i.toNat]? = some x) (h : Q x s)
    (hsub : subscripted slice false (.ref l) (.int i u) = operate [.ref l, .int i u] (getItem (.ref l) (.int i u)) := by with_unfolding_all rfl) (hc : ol.cls = .type "list") :
    wpAny (model P0 w) A (subscriptTail value slice (.ref l) (.int i u)) Q E s :=
  tail_any ⟨_, hl, hc⟩ slot_list_getitem.lookup (item_T X.ok hl hs h0 hfit hx h) hsub
end
end

section
section
variable {w : World} {A : Around} {E : Value → Shared → Prop} {s₀ s s' b : Shared} {env : Env} {ow : Ow} {m cm : Str → Option Value} {S : List (Addr × Obj)} {v : Value} {dd : Nat}

theorem rangeSize_chunk {len sz : Nat} (h : 0 < sz) : Builtin.Range.rangeSize 0 (len : Int) (sz : Int) = (chunkN len sz : Int) := by
  unfold Builtin.Range.rangeSize chunkN
  rw [if_pos (by omega)]
  by_cases hl : len = 0
  · subst hl
    rw [if_neg (by omega), show 0 + sz - 1 = sz - 1 by omega, Nat.div_eq_of_lt (by omega)]; rfl
  · rw [if_pos (by omega), show len + sz - 1 = (len - 1) + sz by omega, Nat.add_div_right _ h]
    have : ((len : Int) - 0 - 1) = ((len - 1 : Nat) : Int) := by omega
    rw [this]; push_cast; rfl

theorem range_small {len sz : Nat} (h : 0 < sz) (h1 : sz ≤ 1000) (h2 : len ≤ 100000) : Builtin.Range.small 0 (len : Int) (sz : Int) = true := by
  unfold Builtin.Range.small
  rw [rangeSize_chunk h, if_pos (show (sz : Int) > 0 by omega)]
  have := chunkN_le (len := len) h
  unfold Builtin.Range.rangeFitsLong
  simp only [Bool.and_eq_true, Bool.or_eq_true, decide_eq_true_eq]
  refine ⟨⟨⟨⟨?_, ?_⟩, ?_⟩, ?_⟩, ?_⟩ <;> omega

theorem o_range {a c e : Int} {t u v : Tok} {Q : Value → Shared → Prop} (X : Fx w s₀ env ow m cm S s) (hc : c ≠ 0) (hp : Builtin.divisionGoesByPylong (e - a) c = false)
    (h : ∀ r s', Fx w s₀ env ow m cm ((r, ({ cls := .type "range", data := .fields #[.int a t, .int e u, .int c v] } : Obj)) :: S) s' → Q (.ref r) s') : wpAny (model P0 w) A (call (.type "range") [.int a t, .int e u, .int c v]) Q E s :=
  call_range_3 hc (h _ _ (X.push { cls := .type "range", data := .fields #[.int a t, .int e u, .int c v] } s.toks)) (.inl hp)

theorem Ready0.range {len sz d : Nat} (ok : Ok w s.heap) (h : 0 < sz) (hdd : d ≤ 122) :
    Ready0 w s s.heap.objs.size "range_iterator" (chunkN len sz) d (fun i T v => T = [] ∧ i < chunkN len sz ∧ ∃ t, v = .int ((i : Int) * (sz : Int)) t) { s with heap := s.heap.push { cls := .type "range_iterator", data := .fields #[rawInt 0, rawInt (Builtin.Range.rangeSize 0 len sz), rawInt sz] } } := by
  have nx : s.heap.get? s.heap.objs.size = none := Heap.get?_none_of_le (Nat.le_refl _)
  refine ⟨s.heap.objs.size + 1, _, Itr.range nx (Nat.lt_succ_self _) hdd, ⟨?_, ok.fresh nx⟩, ?_⟩
  · have := Heap.get?_push_size s.heap (o := { cls := .type "range_iterator", data := .fields #[rawInt 0, rawInt (Builtin.Range.rangeSize 0 len sz), rawInt sz] }) rfl
    rw [rangeSize_chunk h] at this ⊢
    show IsRangeIter _ _ _ _ _
    unfold IsRangeIter
    rw [show ((0 : Nat) : Int) * (sz : Int) = 0 by simp, show (chunkN len sz : Int) - ((0 : Nat) : Int) = (chunkN len sz : Int) by simp]
    exact this
  · rw [Heap.size_push]; exact Nat.le_refl _
end
end

section
abbrev lawD : Stmt := topS 26
theorem fnLaw (w : World) : ∃ oc od fd sl, (KF w).lookup 529 = some ⟨oc, od, .func fd, sl⟩ ∧ FnOk w fd (bodyOf lawD) (namesOf lawD) false ∧ fd.closure = [] ∧ ∀ a, bindArgs fd ⟨[a], []⟩ = (pure [(("script" : Str), a)] : Sem (List (Str × Value))) :=
  ⟨_, _, _, _, rfl, ⟨by kernel_rfl, by kernel_rfl, by kernel_rfl, by kernel_rfl, by kernel_rfl, by kernel_rfl, by kernel_rfl, by kernel_rfl⟩, by kernel_rfl, fun a => by kernel_rfl⟩
def intV : Value → Option Int | .int i _ => some i | _ => none
def strV : Value → Option Str | .str x _ => some x | _ => none
def moreL : List Int := [10, 3, 4, 1, 2, 7, 3, 0, 11]
def piecesL : List Str := ["a", "^", "J", "\n", "^J", "K", "^K", " ", "é", "\n\n", "^^", "中"]
theorem moreIn (w : World) : ∃ items k, (KF w).lookup 507 = some (lstO items k) ∧ items.toList.map intV = moreL.map some := ⟨_, _, rfl, by kernel_rfl⟩
theorem piecesIn (w : World) : ∃ items k, (KF w).lookup 499 = some (lstO items k) ∧ items.toList.map strV = piecesL.map some := ⟨_, _, rfl, by kernel_rfl⟩

/-- a list's values are these ints -/
def IntsOf (items : Array Value) (ns : List Int) : Prop := items.toList.map intV = ns.map some
theorem IntsOf.at {items : Array Value} {ns : List Int} (h : IntsOf items ns) {j : Nat} {v : Value} (e : items[j]? = some v) : ∃ i t, ns[j]? = some i ∧ v = .int i t := by
  have h1 := congrArg (fun l : List (Option Int) => l[j]?) h
  simp only [List.getElem?_map, Array.getElem?_toList, e, Option.map_some] at h1
  cases hn : ns[j]? with
  | none => rw [hn] at h1; cases h1
  | some i =>
    rw [hn] at h1
    simp only [Option.map_some, Option.some.injEq] at h1
    cases v <;> simp only [intV] at h1 <;> first | (cases h1; exact ⟨_, _, rfl, rfl⟩) | cases h1
theorem IntsOf.size {items : Array Value} {ns : List Int} (h : IntsOf items ns) : items.size = ns.length := by
  have := congrArg List.length h
  simpa using this
theorem IntsOf.app {xs ys : Array Value} {ns ms : List Int} (h : IntsOf xs ns) (k : IntsOf ys ms) : IntsOf (xs ++ ys) (ns ++ ms) := by
  unfold IntsOf at *
  rw [Array.toList_append, List.map_append, h, k, List.map_append]
def StrsOf (items : Array Value) (ns : List Str) : Prop := items.toList.map strV = ns.map some
theorem StrsOf.at {items : Array Value} {ns : List Str} (h : StrsOf items ns) {j : Nat} {v : Value} (e : items[j]? = some v) : ∃ i t, ns[j]? = some i ∧ v = .str i t := by
  have h1 := congrArg (fun l : List (Option Str) => l[j]?) h
  simp only [List.getElem?_map, Array.getElem?_toList, e, Option.map_some] at h1
  cases hn : ns[j]? with
  | none => rw [hn] at h1; cases h1
  | some i =>
    rw [hn] at h1
    simp only [Option.map_some, Option.some.injEq] at h1
    cases v <;> simp only [strV] at h1 <;> first | (cases h1; exact ⟨_, _, rfl, rfl⟩) | cases h1
theorem StrsOf.size {items : Array Value} {ns : List Str} (h : StrsOf items ns) : items.size = ns.length := by
  have := congrArg List.length h
  simpa using this

section
variable {w : World} {A : Around} {E : Value → Shared → Prop} {s₀ s s' b : Shared} {env : Env} {ow : Ow} {m cm : Str → Option Value} {S : List (Addr × Obj)} {v : Value} {dd : Nat}

/-- an object of the top's fragment -/
theorem Fx.kf {a : Addr} {o : Obj} (X : Fx w s₀ env ow m cm S s) (h : (KF w).lookup a = some o) (h4 : a ∉ T4) (hf : frz o = true) : Fx w s₀ env ow m cm ((a, o) :: S) s :=
  X.more (T := [(a, o)]) (HS.cons HS.nil (X.ok.K _ _ h) h4 hf)

abbrev lawN : List (Str × NameKind) := namesOf lawD
def lawS (i : Nat) : Stmt := (bodyOf lawD).getD i (.Pass default)

/-- numbers = list(script) + _law_more -/
theorem law_s0 {l : Addr} {items : Array Value} {k : Nat} {ns : List Int} {Q : Flow → Shared → Prop} (I : EnvIs env lawN) (X : Fx w s₀ env ⟨.of true, []⟩ m cm S s) (hm1 : m "script" = some (.ref l)) (hl : (l, lstO items k) ∈ S) (hz : items.size ≤ 63) (hi : IntsOf items ns)
    (h : ∀ D items' s', Fx w s₀ env ⟨.of true, []⟩ (fun y => if y = "numbers" then some (.ref D) else m y) cm ((D, lstO items' 0) :: S) s' → IntsOf items' (ns ++ moreL) → Q .next s') :
    wpAny (model P0 w) A (exec (lawS 0) env) Q (fun _ _ => False) s := by
  show wpAny _ _ (exec (Stmt.Assign [Expr.Name _ _] _ _) _) _ _ _
  repeat (walk_at "m1")
  refine o_list X (X.has _ hl).1 rfl rfl (by omega) fun D₁ c₁ s₁ X₁ => ?_
  repeat (walk_at "m1")
  obtain ⟨more, km, hmore, hmi⟩ := moreIn w
  have X₂ := X₁.kf hmore (by decide) rfl
  have hms : more.size = 9 := IntsOf.size (ns := moreL) hmi
  refine o_ladd X₂ (.tail _ (.head _)) (.head _) (by omega) fun D s₃ X₃ => ?_
  have X₄ := X₃.less (T := (D, lstO (items ++ more) 0) :: S) (fun p hp => by rcases List.mem_cons.mp hp with rfl | hp; exact .head _; exact .tail _ (.tail _ (.tail _ hp)))
  repeat (walk_at "m1")
  rename_i s₅ X₅
  exact h D _ s₅ X₅ (hi.app hmi)

/-- head = numbers[0] -/
theorem law_s1 {D : Addr} {items : Array Value} {k : Nat} {n : Int} {ns : List Int} {Q : Flow → Shared → Prop} (I : EnvIs env lawN) (X : Fx w s₀ env ⟨.of true, []⟩ m cm S s) (hm1 : m "numbers" = some (.ref D)) (hl : (D, lstO items k) ∈ S) (hi : IntsOf items (n :: ns))
    (h : ∀ t s', Fx w s₀ env ⟨.of true, []⟩ (fun y => if y = "head" then some (.int n t) else m y) cm S s' → Q .next s') :
    wpAny (model P0 w) A (exec (lawS 1) env) Q (fun _ _ => False) s := by
  show wpAny _ _ (exec (Stmt.Assign [Expr.Name _ _] _ _) _) _ _ _
  repeat (walk_at "m1")
  rename_i t₁ s₁ X₁
  obtain ⟨v, hv⟩ : ∃ v, items[0]? = some v := ⟨_, Array.getElem?_eq_getElem (by rw [hi.size]; exact Nat.succ_pos _)⟩
  obtain ⟨i, t, e, rfl⟩ := hi.at hv
  cases e
  refine o_item X₁ (X₁.has _ hl).1 ⟨.inr rfl, rfl⟩ (by decide) (by decide) hv ?_ (hc := rfl)
  repeat (walk_at "m1")
  rename_i s₅ X₅
  exact h t s₅ X₅
end
end

section
theorem pick_nn (items : Array Value) (x y : Int) (hx : 0 ≤ x) (hy : 0 ≤ y) : (slicePick items (some x) (some y) none).toList = (items.toList.take y.toNat).drop x.toNat := by
  rw [kms_pick_eq]
  simp only [kms_pick, kms_lo, kms_hi]
  rw [if_neg (by omega), if_neg (by omega)]
  generalize items.toList = l
  generalize x.toNat = a
  generalize y.toNat = b
  apply List.ext_getElem?
  intro i
  rw [List.getElem?_take, List.getElem?_drop, List.getElem?_drop, List.getElem?_take]
  by_cases h1 : a ≤ l.length
  · rw [Nat.min_eq_left h1]
    by_cases h2 : a + i < b
    · rw [if_pos h2]
      by_cases h3 : i < min b l.length - a
      · rw [if_pos h3]
      · rw [if_neg h3, List.getElem?_eq_none (by omega)]
    · rw [if_neg h2, if_neg (by omega)]
  · rw [List.getElem?_eq_none (by omega), List.getElem?_eq_none (show l.length ≤ a + i by omega)]
    split <;> split <;> rfl
theorem IntsOf.pick {items : Array Value} {ns : List Int} (h : IntsOf items ns) (x y : Int) (hx : 0 ≤ x) (hy : 0 ≤ y) : IntsOf (slicePick items (some x) (some y) none) ((ns.take y.toNat).drop x.toNat) := by
  unfold IntsOf at *
  rw [pick_nn _ _ _ hx hy, List.map_drop, List.map_take, h, List.map_drop, List.map_take]
end

section
def pieceOf (n : Int) : Str := piecesL.getD (n.fmod 12).toNat ""
/-- what the comprehension of the pieces gives -/
def strA (ps : List Str) : Nat → List (Addr × Obj) → Value → Prop := fun i T y => T = [] ∧ ∃ x t, ps[i]? = some x ∧ y = .str x t
theorem StrsOf.ofAcc {ps : List Str} {F : List (Addr × Obj)} {acc : Array Value} (h : Acc (strA ps) ps.length F acc) : StrsOf acc ps := by
  unfold StrsOf
  apply List.ext_getElem?
  intro j
  rw [List.getElem?_map, List.getElem?_map, Array.getElem?_toList]
  cases hj : acc[j]? with
  | none =>
    have : ps[j]? = none := List.getElem?_eq_none (by rw [← h.1]; exact Array.getElem?_eq_none_iff.mp hj)
    rw [this]; rfl
  | some v =>
    obtain ⟨T, _, _, x, t, e, rfl⟩ := h.2 j v hj
    rw [e]; rfl

section
variable {w : World} {A : Around} {E : Value → Shared → Prop} {s₀ s s' b : Shared} {env : Env} {ow : Ow} {m cm : Str → Option Value} {S : List (Addr × Obj)} {v : Value} {dd : Nat}

theorem subslice_F {value : Expr} {lower upper : Option Expr} {p pos : Pos} {Q : Value → Shared → Prop}
    (h : wpAny (model P0 w) A (eval value env) (fun o s₁ => wpAny (model P0 w) A (evalPart lower env) (fun vl s₂ => wpAny (model P0 w) A (evalPart upper env) (fun vu s₃ =>
      ∃ S m t ol items k lo hi, o = .ref t ∧ Fx w s₀ env ow m cm S s₃ ∧ (t, ol) ∈ S ∧ SeqO ol items k ∧ items.size ≤ 1000000 ∧ IsPart vl lo ∧ IsPart vu hi ∧
        ∀ D s', Fx w s₀ env ow m cm ((D, lstO (slicePick items lo hi none) 0) :: S) s' → Q (.ref D) s') E s₂) E s₁) E s)
    (ht : ∀ o r, letTemporaryGo value o r = pure () := by intro _ _; rfl) :
    wpAny (model P0 w) A (eval (.Subscript value (.Slice lower upper none p) pos) env) Q E s := by
  refine Subslice_T (wpAny_mono h (fun o s₁ h₁ => wpAny_mono h₁ (fun vl s₂ h₂ => wpAny_mono h₂ (fun vu s₃ h₃ => ?_) fun _ _ z => z) fun _ _ z => z) fun _ _ z => z) ht
  obtain ⟨S, m, t, ol, items, k, lo, hi, rfl, X, hm, hs, hz, pl, pu, q⟩ := h₃
  refine ⟨t, ol, items, k, lo, hi, rfl, X.ok, (X.has _ hm).1, hs, by rw [sizeLine_eq]; omega, pl, pu, ?_⟩
  have X₁ := (X.push { cls := .type "slice", data := .fields #[vl, vu, .none] } s₃.toks).push (lstO (slicePick items lo hi none) 0) s₃.toks
  have e : (s₃.heap.push { cls := .type "slice", data := .fields #[vl, vu, .none] }).objs.size = s₃.heap.objs.size + 1 := Heap.size_push ..
  have X₂ := X₁.less (T := (s₃.heap.objs.size + 1, lstO (slicePick items lo hi none) 0) :: S) (fun p hp => by
    rcases List.mem_cons.mp hp with rfl | hp
    · rw [← e]; exact .head _
    · exact .tail _ (.tail _ hp))
  exact q _ _ X₂

theorem swaps_lc {elt : Expr} {gens : List Comprehension} {scope : Scope} {pos tp : Pos} {t : Str} {l : Nat} {names : List (Str × NameKind)} (I : EnvIs env names) (ht : names.lookup t = some .local) (hp : (tp.line == pos.line && !(scope.names.any fun (n, k) => n == t && (k == .local || k == .cell))) = true) :
    swapsWith (.ListComp elt gens scope pos) (some (.Name t tp)) l env = pure true := by
  have e1 : env.blockKind = .function := by unfold Env.blockKind; rw [I.kind]; rfl
  have e2 := I.kindOf ht
  show (pure (env.blockKind == .function && env.kindOf t == some .local && tp.line == pos.line && !(scope.names.any fun (n, k) => n == t && (k == .local || k == .cell))) : Sem Bool) = _
  rw [e1, e2]
  rw [Bool.and_eq_true] at hp
  rw [hp.1, hp.2]; rfl

theorem law_s2 {D : Addr} {items : Array Value} {k : Nat} {head : Int} {th : Tok} {ns : List Int} {Q : Flow → Shared → Prop} (I : EnvIs env lawN) (hA : AO dd A) (hdd : dd ≤ 122) (X : Fx w s₀ env ⟨.of true, []⟩ m cm S s) (hcells : ∀ q ∈ env.cells, ∃ n, env.cells.lookup n = some q.2)
    (hm1 : m "numbers" = some (.ref D)) (hm2 : m "head" = some (.int head th)) (hl : (D, lstO items k) ∈ S) (hi : IntsOf items ns) (hns : ns.length ≤ 1000)
    (h : ∀ D items' k' s', Fx w s₀ env ⟨.of true, []⟩ (fun y => if y = "pieces" then some (.ref D) else m y) cm ((D, lstO items' k') :: S) s' → StrsOf items' (((ns.take (1 + head.fmod 30).toNat).drop 1).map pieceOf) → Q .next s') :
    wpAny (model P0 w) A (exec (lawS 2) env) Q (fun _ _ => False) s := by
  have hf0 : 0 ≤ head.fmod 30 := Int.fmod_nonneg_of_pos _ (by decide)
  have hf1 : head.fmod 30 < 30 := Int.fmod_lt_of_pos _ (by decide)
  refine lc_assign (swaps_lc I (by rfl) (by rfl)) I (closureFor_none (by decide)) (by rfl) (by decide) (by decide) (by rfl) (by rfl) (by intro _; rfl) ?_
  refine subslice_F (s₀ := s₀) (ow := ⟨.of true, []⟩) (cm := cm) ?_
  repeat (walk_at "m1")
  rw [evalPart_some]
  repeat (walk_at "m1")
  rw [evalPart_some]
  repeat (walk_at "m1")
  rename_i t₃ s₃ X₃
  refine ⟨S, m, D, lstO items k, items, k, some 1, some (1 + head.fmod 30), rfl, X₃, hl, ⟨.inr rfl, rfl⟩, by rw [hi.size]; omega, .int _ _, .int _ _, fun D₄ s₄ X₄ => ?_⟩
  have hD₄ := X₄.has _ (.head _)
  have hpk := hi.pick 1 (1 + head.fmod 30) (by decide) (by omega)
  generalize hpg : slicePick items (some 1) (some (1 + head.fmod 30)) none = pk at *
  refine iter_T0 X₄.ok hD₄.1 ⟨.inr rfl, rfl⟩ ?_
  refine ⟨s₄, s₀, m, cm, _, _, _, pk.size, dd, _, strA (((ns.take (1 + head.fmod 30).toNat).drop 1).map pieceOf), fun _ => none, [], rfl, (Bx.self X₄.ok).grow (t := s₄.toks) (fun a o e => Heap.get?_push_of_some _ e), Ready0.list X₄.ok hD₄.1 rfl hD₄.2.1 hdd, ?_, hA, (fun n c e => by cases e), (fun p hp => by cases hp), .nil, HS.nil, (fun j T v hR p hp => by rw [hR.1] at hp; cases hp), ?_, X₄, ?_, ?_⟩
  · rw [hpk.size, List.length_drop, List.length_take]; omega
  · intro C i v T s₂ m₂ b' hR hmx Y
    obtain ⟨rfl, hv⟩ := hR
    obtain ⟨n, tn, hn, rfl⟩ := hpk.at hv
    have Ic := relabel_fx Y I (by rfl)
    clear I X X₃ X₄
    repeat (walk_at "m1")
    rename_i tm s₆ Y₆
    obtain ⟨pcs, kp, hpl, hps⟩ := piecesIn w
    have Y₇ := Y₆.kf hpl (by decide) rfl
    have g0 : 0 ≤ n.fmod 12 := Int.fmod_nonneg_of_pos _ (by decide)
    have g1 : n.fmod 12 < 12 := Int.fmod_lt_of_pos _ (by decide)
    have hsz : pcs.size = 12 := StrsOf.size (ns := piecesL) hps
    obtain ⟨y, hy⟩ : ∃ y, pcs[(n.fmod 12).toNat]? = some y := ⟨_, Array.getElem?_eq_getElem (by omega)⟩
    obtain ⟨x, tx, hx, rfl⟩ := StrsOf.at (ns := piecesL) hps hy
    refine o_item Y₇ (Y₇.has _ (.head _)).1 ⟨.inr rfl, rfl⟩ g0 (by omega) hy ?_ (hc := rfl)
    exact ⟨_, _, [], Y₆, fun p hp => (nomatch hp), rfl, x, tx, by rw [List.getElem?_map, show ((ns.take (1 + head.fmod 30).toNat).drop 1)[i]? = some n from hn]; show some (pieceOf n) = _; unfold pieceOf; rw [List.getD_eq_getElem?_getD, hx]; rfl, rfl⟩
  · intro q hq
    obtain ⟨n, hn⟩ := hcells q hq
    exact ⟨_, X₄.cell n q.2 hn⟩
  · intro s' D k' acc F X' hacc
    rw [hpk.size, ← List.length_map (as := (ns.take (1 + head.fmod 30).toNat).drop (1 : Int).toNat) (f := pieceOf)] at hacc
    have hF : ∀ p ∈ F, p ∈ F := fun p hp => hp
    exact h D acc k' s' (X'.less fun p hp => by
      rcases List.mem_cons.mp hp with rfl | hp
      · exact .head _
      · exact .tail _ (List.mem_append_right _ (.tail _ hp))) (StrsOf.ofAcc hacc)
end
end

section
section
variable {w : World} {A : Around} {E : Value → Shared → Prop} {s₀ s s' b : Shared} {env : Env} {ow : Ow} {m cm : Str → Option Value} {S : List (Addr × Obj)} {v : Value} {dd : Nat}

def bees : Str := Txt.mul "b" 300
theorem o_mulb {x : Str} {n : Int} {t u : Tok} {Q : Value → Shared → Prop} (X : Fx w s₀ env ow m cm S s) (hok : MulOk x n) (h : ∀ t s', Fx w s₀ env ow m cm S s' → Q (.str (Txt.mul x n) t) s') : wpAny (model P0 w) A (binaryOp .Mult (.str x t) (.int n u)) Q E s :=
  SB.mul hok fun _ _ => h _ _ (X.tok _)

def withB (head : Int) (ps : List Str) : List Str := if (head.fdiv 30).fmod 3 = 2 then bees :: ps else ps
theorem law_s3 {D : Addr} {items : Array Value} {k : Nat} {head : Int} {th : Tok} {ps : List Str} {Q : Flow → Shared → Prop} (I : EnvIs env lawN) (X : Fx w s₀ env ⟨.of true, []⟩ m cm S s)
    (hm1 : m "pieces" = some (.ref D)) (hm2 : m "head" = some (.int head th)) (hl : (D, lstO items k) ∈ S) (hi : StrsOf items ps) (hns : ps.length ≤ 1000)
    (h : ∀ D items' k' m' S' s', Fx w s₀ env ⟨.of true, []⟩ m' cm (S' ++ S) s' → (∀ y : Str, y ≠ "pieces" → m' y = m y) → m' "pieces" = some (.ref D) → (D, lstO items' k') ∈ S' ++ S → StrsOf items' (withB head ps) → Q .next s') :
    wpAny (model P0 w) A (exec (lawS 3) env) Q (fun _ _ => False) s := by
  show wpAny _ _ (exec (Stmt.If _ _ _ _) _) _ _ _
  repeat (walk_at "m1")
  rename_i tm s₁ X₁
  by_cases hc : (head.fdiv 30).fmod 3 = 2
  · rw [if_pos (by rw [hc]; rfl)]
    repeat (walk_at "m1")
    rename_i tb sb Xb tn sn Xn
    refine o_mulb Xn ⟨by decide, fun _ _ => by decide, fun _ _ => by decide⟩ fun t₂ s₂ X₂ => ?_
    refine spliced_none ?_
    repeat (walk_at "m1")
    rename_i D₃ s₃ X₃
    have X₃' : Fx w s₀ env ⟨.of true, []⟩ m cm ((D₃, lstO #[.str bees t₂] 0) :: S) s₃ := X₃
    refine o_ladd X₃' (.head _) (.tail _ hl) (by rw [hi.size]; show 1 + ps.length ≤ _; omega) fun D₄ s₄ X₄ => ?_
    repeat (walk_at "m1")
    rename_i s₅ X₅
    refine h D₄ _ 0 _ [(D₄, lstO (#[.str bees t₂] ++ items) 0), (D₃, lstO #[.str bees t₂] 0)] s₅ X₅ (fun y hy => if_neg hy) (if_pos rfl) (.head _) ?_
    unfold StrsOf withB at *
    rw [if_pos hc, Array.toList_append, List.map_append, hi]; rfl
  · rw [if_neg (by rw [beq_iff_eq]; exact hc)]
    repeat (walk_at "m1")
    exact h D items k m [] s₁ X₁ (fun _ _ => rfl) hm1 hl (by unfold withB; rw [if_neg hc]; exact hi)
end
end

section
theorem StrsOf.are {items : Array Value} {ps : List Str} (h : StrsOf items ps) : StrsAre items.toList ps := by
  unfold StrsOf at h
  generalize items.toList = l at h
  induction l generalizing ps with
  | nil => cases ps with
    | nil => exact .nil
    | cons _ _ => cases h
  | cons v l ih => cases ps with
    | nil => cases h
    | cons p ps =>
      simp only [List.map_cons, List.cons.injEq] at h
      cases v <;> simp only [strV] at h <;> first | (obtain ⟨h1, h2⟩ := h; cases h1; exact .cons _ _ (ih h2)) | exact absurd h.1 (by simp)

section
variable {w : World} {A : Around} {E : Value → Shared → Prop} {s₀ s s' b : Shared} {env : Env} {ow : Ow} {m cm : Str → Option Value} {S : List (Addr × Obj)} {v : Value} {dd : Nat}

theorem law_s4 {D : Addr} {items : Array Value} {k : Nat} {ps : List Str} {Q : Flow → Shared → Prop} (I : EnvIs env lawN) (hA : AO dd A) (X : Fx w s₀ env ⟨.of true, []⟩ m cm S s)
    (hm1 : m "pieces" = some (.ref D)) (hl : (D, lstO items k) ∈ S) (hi : StrsOf items ps) (hs : (ps.map (·.length)).sum ≤ 100000)
    (h : ∀ t s', Fx w s₀ env ⟨.of true, []⟩ (fun y => if y = "whole" then some (.str (Txt.join (Str.ofString "") ps) t) else m y) cm S s' → Q .next s') :
    wpAny (model P0 w) A (exec (lawS 4) env) Q (fun _ _ => False) s := by
  show wpAny _ _ (exec (Stmt.Assign [Expr.Name _ _] _ _) _) _ _ _
  walk_at "m1"
  refine m_str1 PySem.F.slot_str_join PySem.F.type_str_join (by rfl) (by rfl) (by rfl) ?_
  walk_at "m1"
  rename_i t₁ s₁ X₁
  refine ⟨_, _, rfl, ?_⟩
  walk_at "m1"
  refine joins_list (B := S) hl rfl rfl hi.are hs A _ _ s₁ t₁ hA.h X₁.ok X₁.has fun t' s₂ B => ?_
  have X₂ := X₁.step B.ok B.kt B.os B.ge
  repeat (walk_at "m1")
  rename_i s₅ X₅
  exact h t' s₅ X₅
end
end

section
section
variable {w : World} {A : Around} {E : Value → Shared → Prop} {s₀ s s' b : Shared} {env : Env} {ow : Ow} {m cm : Str → Option Value} {S : List (Addr × Obj)} {v : Value} {dd : Nat}

theorem law_s5 {head : Int} {th : Tok} {Q : Flow → Shared → Prop} (I : EnvIs env lawN) (hA : AO (dd + 20) A) (X : Fx w s₀ env ⟨.of true, []⟩ m cm S s) (hm2 : m "head" = some (.int head th)) (h0 : 0 < s.toks)
    (h : ∀ x t S' s', endsL[((head.fdiv 90).fmod 4).toNat]? = some x → t ≠ 0 → t < s'.toks → Fx w s₀ env ⟨.of true, []⟩ (fun y => if y = "end" then some (.str x t) else m y) cm (S' ++ S) s' → Q .next s') :
    wpAny (model P0 w) A (exec (lawS 5) env) Q (fun _ _ => False) s := by
  show wpAny _ _ (exec (Stmt.Assign [Expr.Name _ _] _ _) _) _ _ _
  iterate 4 (walk_at "m1")
  refine callWith_K0 X.ok.K (by kernel_rfl) ?_
  refine wpAny_mono (ends_spec (dd := dd) X.ok X.has (hA.le (by omega)) h0) (fun v s₁ h₁ => ?_) fun _ _ z => z
  obtain ⟨S₁, ⟨l, k, items, rfl, hl, hsz, hit⟩, X₁⟩ := X.call h₁
  have hg0 : 0 ≤ (head.fdiv 90).fmod 4 := Int.fmod_nonneg_of_pos _ (by decide)
  have hg1 : (head.fdiv 90).fmod 4 < 4 := Int.fmod_lt_of_pos _ (by decide)
  obtain ⟨y, hy⟩ : ∃ y, items[((head.fdiv 90).fmod 4).toNat]? = some y := ⟨_, Array.getElem?_eq_getElem (by omega)⟩
  obtain ⟨x, t, hx, rfl, ht0, ht⟩ := hit _ _ hy
  refine wpAny_with_toks (Nat.le_refl s₁.toks) ?_
  repeat (walk_at "m1")
  rename_i ti s₂ X₂
  intro htk
  refine o_item X₂ (X₂.has _ (List.mem_append_left _ hl)).1 ⟨.inr rfl, rfl⟩ hg0 (by omega) hy ?_ (hc := rfl)
  refine wpAny_with_toks htk ?_
  repeat (walk_at "m1")
  rename_i s₅ X₅
  intro htk₂
  exact h x t S₁ s₅ hx ht0 (Nat.lt_of_lt_of_le ht htk₂) X₅
end
end

section
section
variable {w : World} {A : Around} {E : Value → Shared → Prop} {s₀ s s' b : Shared} {env : Env} {ow : Ow} {m cm : Str → Option Value} {S : List (Addr × Obj)} {v : Value} {dd : Nat}

def size1 (head : Int) : Int := (head.fdiv 360).fmod 9 + 1
def sizeOf' (head : Int) : Int := if (head.fdiv 3240).fmod 2 = 1 then size1 head + 250 else size1 head
/-- size = head // 360 % 9 + 1 -/
theorem law_s6 {head : Int} {th : Tok} {c : Addr} {Q : Flow → Shared → Prop} (I : EnvIs env lawN) (X : Fx w s₀ env ⟨.of true, []⟩ m cm S s) (hm2 : m "head" = some (.int head th)) (hc : env.cells.lookup ("size" : Str) = some c)
    (h : ∀ t s', Fx w s₀ env ⟨.of true, []⟩ m (fun y => if y = "size" then some (.int (size1 head) t) else cm y) S s' → Q .next s') :
    wpAny (model P0 w) A (exec (lawS 6) env) Q (fun _ _ => False) s := by
  show wpAny _ _ (exec (Stmt.Assign [Expr.Name _ _] _ _) _) _ _ _
  repeat (walk_at "m1")
  rename_i s₅ X₅
  exact h _ s₅ X₅
/-- if head // 3240 % 2 == 1: size = size + 250 -/
theorem law_s7 {head : Int} {th tz : Tok} {c : Addr} {Q : Flow → Shared → Prop} (I : EnvIs env lawN) (X : Fx w s₀ env ⟨.of true, []⟩ m cm S s) (hm2 : m "head" = some (.int head th)) (hc : env.cells.lookup ("size" : Str) = some c) (hz : cm "size" = some (.int (size1 head) tz))
    (h : ∀ t cm' s', Fx w s₀ env ⟨.of true, []⟩ m cm' S s' → cm' "size" = some (.int (sizeOf' head) t) → (∀ y : Str, y ≠ "size" → cm' y = cm y) → Q .next s') :
    wpAny (model P0 w) A (exec (lawS 7) env) Q (fun _ _ => False) s := by
  show wpAny _ _ (exec (Stmt.If _ _ _ _) _) _ _ _
  repeat (walk_at "m1")
  rename_i tm s₁ X₁
  by_cases hq : (head.fdiv 3240).fmod 2 = 1
  · rw [if_pos (by rw [hq]; rfl)]
    repeat (walk_at "m1")
    rename_i s₅ X₅
    exact h _ _ s₅ X₅ (by unfold sizeOf'; rw [if_pos hq]; exact if_pos rfl) (fun y hy => if_neg hy)
  · rw [if_neg (by rw [beq_iff_eq]; exact hq)]
    repeat (walk_at "m1")
    exact h tz cm s₁ X₁ (by unfold sizeOf'; rw [if_neg hq]; exact hz) (fun _ _ => rfl)
end
end

section
section
variable {w : World} {A : Around} {E : Value → Shared → Prop} {s₀ s s' b : Shared} {env : Env} {ow : Ow} {m cm : Str → Option Value} {S : List (Addr × Obj)} {v : Value} {dd : Nat}

def codeL : List Int := [1000, 303, 3, 1]
def codeOf (head : Int) : Int := codeL.getD ((head.fdiv 6480).fmod 4).toNat 0
/-- code = [1000, 303, 3, 1][head // 6480 % 4] -/
theorem law_s8 {head : Int} {th : Tok} {c : Addr} {Q : Flow → Shared → Prop} (I : EnvIs env lawN) (X : Fx w s₀ env ⟨.of true, []⟩ m cm S s) (hm2 : m "head" = some (.int head th)) (hc : env.cells.lookup ("code" : Str) = some c)
    (h : ∀ t S' s', Fx w s₀ env ⟨.of true, []⟩ m (fun y => if y = "code" then some (.int (codeOf head) t) else cm y) (S' ++ S) s' → Q .next s') :
    wpAny (model P0 w) A (exec (lawS 8) env) Q (fun _ _ => False) s := by
  have hg0 : 0 ≤ (head.fdiv 6480).fmod 4 := Int.fmod_nonneg_of_pos _ (by decide)
  have hg1 : (head.fdiv 6480).fmod 4 < 4 := Int.fmod_lt_of_pos _ (by decide)
  show wpAny _ _ (exec (Stmt.Assign [Expr.Name _ _] _ _) _) _ _ _
  repeat (walk_at "m1")
  rename_i t0 s0 X0 t1 s1 X1 t2 s2 X2 t3 s3 X3 l s4 X4 t5 s5 X5 t6 s6 X6 t7 s7 X7 t8 s8 X8
  have hi : IntsOf #[.int 1000 t0, .int 303 t1, .int 3 t2, .int 1 t3] codeL := rfl
  have hmem := X8.has _ (.head _)
  obtain ⟨y, hy⟩ : ∃ y, (#[Value.int 1000 t0, .int 303 t1, .int 3 t2, .int 1 t3])[((head.fdiv 6480).fmod 4).toNat]? = some y := ⟨_, Array.getElem?_eq_getElem (by show _ < 4; omega)⟩
  obtain ⟨x, t, hx, rfl⟩ := hi.at hy
  refine o_item X8 hmem.1 ⟨.inr rfl, rfl⟩ hg0 (by omega) hy ?_ (hc := rfl)
  repeat (walk_at "m1")
  rename_i s9 X9
  refine h t [(l, lstO #[.int 1000 t0, .int 303 t1, .int 3 t2, .int 1 t3] 0)] s9 ?_
  have e : codeOf head = x := by unfold codeOf; rw [List.getD_eq_getElem?_getD, hx]; rfl
  rw [e]; exact X9

/-- said = _law_swap(whole, '\n', end) -/
theorem law_s9 {whole e : Str} {tw te : Tok} {c : Addr} {Q : Flow → Shared → Prop} (I : EnvIs env lawN) (hA : AO (dd + 20) A) (X : Fx w s₀ env ⟨.of true, []⟩ m cm S s) (hm1 : m "whole" = some (.str whole tw)) (hm2 : m "end" = some (.str e te)) (hc : env.cells.lookup ("said" : Str) = some c)
    (hw : whole.length ≤ 4000) (he : e.length ≤ 10)
    (h : ∀ t S' s', Fx w s₀ env ⟨.of true, []⟩ m (fun y => if y = "said" then some (.str (swapS whole "\n" e) t) else cm y) (S' ++ S) s' → Q .next s') :
    wpAny (model P0 w) A (exec (lawS 9) env) Q (fun _ _ => False) s := by
  show wpAny _ _ (exec (Stmt.Assign [Expr.Name _ _] _ _) _) _ _ _
  iterate 3 (walk_at "m1")
  refine callWith_K X.ok.K (by kernel_rfl) ?_
  repeat (walk_at "m1")
  rename_i t₁ s₁ X₁
  refine ⟨X₁.ok.K, ?_⟩
  refine wpAny_mono (swap_spec (d := dd) X₁.ok (hA.le (by omega)) hw (by decide) (by decide) he) (fun v s₂ h₂ => ?_) fun _ _ z => z
  obtain ⟨S', ⟨t, rfl⟩, X₂⟩ := X₁.call h₂
  repeat (walk_at "m1")
  rename_i s₃ X₃
  exact h t S' s₃ X₃
end
end

section
def chunksI (said : Str) (sz : Nat) (code : Int) : List (Int × Str) := (List.range (chunkN said.length sz)).map fun i => (code, chunk said sz i)
theorem chunksI_len (said : Str) (sz : Nat) (code : Int) : (chunksI said sz code).length = chunkN said.length sz := by simp [chunksI]
theorem chunk_as (said : Str) (sz i : Nat) : Txt.slice said (some ((i : Int) * (sz : Int))) (some ((i : Int) * (sz : Int) + (sz : Int))) = chunk said sz i := by
  unfold chunk
  rw [Nat.add_mul, Nat.one_mul, Int.natCast_add, Int.natCast_mul]
section
variable {w : World} {A : Around} {E : Value → Shared → Prop} {s₀ s s' b : Shared} {env : Env} {ow : Ow} {m cm : Str → Option Value} {S : List (Addr × Obj)} {v : Value} {dd : Nat}

theorem addr_ne (L : Addr) {a b : Nat} (h : a ≠ b) : L + a ≠ L + b := fun e => h (Nat.add_left_cancel e)
theorem law_cells {L : Addr} (hcl : env.cells = cellsFrom (L + 1) lawN []) : env.cells = [(("plain" : Str), L + 4), ("said", L + 3), ("code", L + 2), ("size", L + 1)] := hcl.trans rfl

/-- parts = [(code, said[k:k + size]) for k in range(0, len(said), size)] -/
theorem law_s10 {said : Str} {ts tc tz : Tok} {code : Int} {sz : Nat} {L : Addr} {Q : Flow → Shared → Prop} (I : EnvIs env lawN) (hA : AO dd A) (hdd : dd ≤ 122) (X : Fx w s₀ env ⟨.of true, []⟩ m cm S s) (hcl : env.cells = cellsFrom (L + 1) lawN [])
    (hv1 : cm "said" = some (.str said ts)) (hv2 : cm "code" = some (.int code tc)) (hv3 : cm "size" = some (.int (sz : Int) tz)) (hl : said.length ≤ 100000) (hsz : 0 < sz) (hsz2 : sz ≤ 1000)
    (h : ∀ D S' s', Fx w s₀ env ⟨.of true, []⟩ (fun y => if y = "parts" then some (.ref D) else m y) cm (S' ++ S) s' → PL (S' ++ S) D (chunksI said sz code) → Q .next s') :
    wpAny (model P0 w) A (exec (lawS 10) env) Q (fun _ _ => False) s := by
  have hl2 := law_cells hcl
  have k1 : env.cells.lookup ("said" : Str) = some (L + 3) := by rw [hl2]; rfl
  have k2 : env.cells.lookup ("code" : Str) = some (L + 2) := by rw [hl2]; rfl
  have k3 : env.cells.lookup ("size" : Str) = some (L + 1) := by rw [hl2]; rfl
  have hN := chunkN_le (len := said.length) hsz
  refine lc_assign (cl := [(("size" : Str), L + 1), ("said", L + 3), ("code", L + 2)]) (swaps_lc I (by rfl) (by rfl)) I ?_ (by rfl) (by decide) (by decide) (by rfl) (by rfl) (by intro _; rfl) ?_
  · unfold closureFor cellOf; rw [hl2]; rfl
  have hcl2 : ∀ n c, ([(("size" : Str), L + 1), ("said", L + 3), ("code", L + 2)] : List (Str × Addr)).lookup n = some c → env.cells.lookup n = some c := by
    intro n c h
    have hmem := mem_of_lookup h
    simp only [List.mem_cons, List.not_mem_nil, or_false, Prod.mk.injEq] at hmem
    rcases hmem with ⟨rfl, rfl⟩ | ⟨rfl, rfl⟩ | ⟨rfl, rfl⟩
    · exact k3
    · exact k1
    · exact k2
  repeat (walk_at "m1")
  rename_i t₁ s₁ X₁ t₂ s₂ X₂
  show wpAny _ _ (call (.type "range") [.int 0 _, .int (said.length : Int) _, .int (sz : Int) _]) _ _ _
  refine o_range X₂ (by omega) (PyProof.noPylong_small (by omega)) fun r s₃ X₃ => ?_
  refine wpAny_pyIter_range (X₃.has _ (.head _)).1 (range_small hsz hsz2 hl) ?_
  refine ⟨s₃, s₀, m, cm, _, _, _, chunkN said.length sz, dd, _, pairA (chunksI said sz code), cm, [], rfl, (Bx.self X₃.ok).grow (t := s₃.toks) (fun a o e => Heap.get?_push_of_some _ e), Ready0.range X₃.ok hsz hdd, by omega, hA, (fun n c e => X₃.cell n c (hcl2 n c e)), (fun p hp => ?_), ?_, HS.nil, pairA_cls, ?_, X₃, ?_, ?_⟩
  · simp only [List.mem_cons, List.not_mem_nil, or_false] at hp
    rcases hp with rfl | rfl | rfl
    · exact X₃.cn _ (mem_of_lookup k3)
    · exact X₃.cn _ (mem_of_lookup k1)
    · exact X₃.cn _ (mem_of_lookup k2)
  · refine .cons (fun p hp => ?_) (.cons (fun p hp => ?_) (.cons (fun p hp => nomatch hp) .nil))
    · simp only [List.mem_cons, List.not_mem_nil, or_false] at hp
      rcases hp with rfl | rfl
      · exact addr_ne L (by decide)
      · exact addr_ne L (by decide)
    · rw [List.mem_singleton.mp hp]; exact addr_ne L (by decide)
  · intro C i v T s m₂ b' hR hmx Y
    obtain ⟨rfl, hi, tk, rfl⟩ := hR
    have Ic := relabel_fx Y I (by rfl)
    clear I X X₁ X₂ X₃
    generalize hce : compEnvC _ _ C env = cenv at Y Ic ⊢
    have j0 : cenv.cells = [(("size" : Str), L + 1), ("said", L + 3), ("code", L + 2)] := by rw [← hce]; rfl
    have j1 : cenv.cells.lookup ("said" : Str) = some (L + 3) := by rw [j0]; rfl
    have j2 : cenv.cells.lookup ("code" : Str) = some (L + 2) := by rw [j0]; rfl
    have j3 : cenv.cells.lookup ("size" : Str) = some (L + 1) := by rw [j0]; rfl
    clear hce
    repeat (walk_at "m1")
    rename_i tq s₅ Y₅
    refine ⟨said, _, _, _, _, _, _, _, _, rfl, rfl, rfl, by rw [sizeLine_eq]; omega, Y₅, fun t' s₆ Y₆ => ?_⟩
    rw [chunk_as]
    repeat (walk_at "m1")
    rename_i a s₇ Y₇
    exact ⟨_, _, _, Y₇, fun p hp => List.mem_singleton.mp hp ▸ .head _, a, _, t', 0, (code, chunk said sz i), by unfold chunksI; rw [List.getElem?_map, List.getElem?_range hi]; rfl, rfl, rfl⟩
  · intro q hq
    exact ⟨_, X₃.cell _ _ (show env.cells.lookup q.1 = some q.2 by rw [hl2] at hq ⊢; simp only [List.mem_cons, List.not_mem_nil, or_false] at hq; rcases hq with rfl | rfl | rfl | rfl <;> rfl)⟩
  · intro s' D k acc F X₄ hacc
    rw [← chunksI_len said sz code] at hacc
    exact h D ((D, lstO acc k) :: F ++ [(r, _)]) s' (by simpa using X₄) ((PL.of hacc).sub fun p hp => by
      rw [List.append_assoc]; exact List.mem_append_left _ hp)
end
end

section
theorem TT.sub {S T : List (Addr × Obj)} {t : Addr} {l : List (Value × Str)} (h : TT S t l) (k : ∀ p ∈ S, p ∈ T) : TT T t l :=
  let ⟨us, hu, ol, items, n, h1, h2, h3, h4⟩ := h; ⟨us, hu, ol, items, n, k _ h1, h2, h3, fun j r e => let ⟨c, v, x, y⟩ := h4 j r e; ⟨c, v, x.sub k, y⟩⟩
section
variable {w : World} {A : Around} {E : Value → Shared → Prop} {s₀ s s' b : Shared} {env : Env} {ow : Ow} {m cm : Str → Option Value} {S : List (Addr × Obj)} {v : Value} {dd : Nat}

/-- back = _law_swap(said, end, '\n') -/
theorem law_s11 {said e : Str} {ts te : Tok} {c : Addr} {Q : Flow → Shared → Prop} (I : EnvIs env lawN) (hA : AO (dd + 20) A) (X : Fx w s₀ env ⟨.of true, []⟩ m cm S s) (hv1 : cm "said" = some (.str said ts)) (hm2 : m "end" = some (.str e te)) (hc : env.cells.lookup ("said" : Str) = some c)
    (hw : said.length ≤ 4000) (he : e.length ≤ 10) (he0 : e.cps.toList ≠ [])
    (h : ∀ t S' s', Fx w s₀ env ⟨.of true, []⟩ (fun y => if y = "back" then some (.str (swapS said e "\n") t) else m y) cm (S' ++ S) s' → Q .next s') :
    wpAny (model P0 w) A (exec (lawS 11) env) Q (fun _ _ => False) s := by
  show wpAny _ _ (exec (Stmt.Assign [Expr.Name _ _] _ _) _) _ _ _
  iterate 3 (walk_at "m1")
  refine callWith_K X.ok.K (by kernel_rfl) ?_
  repeat (walk_at "m1")
  rename_i t₁ s₁ X₁
  refine ⟨X₁.ok.K, ?_⟩
  refine wpAny_mono (swap_spec (d := dd) X₁.ok (hA.le (by omega)) hw he0 he (by decide)) (fun v s₂ h₂ => ?_) fun _ _ z => z
  obtain ⟨S', ⟨t, rfl⟩, X₂⟩ := X₁.call h₂
  repeat (walk_at "m1")
  rename_i s₃ X₃
  exact h t S' s₃ X₃

/-- form = head // 25920 % 3 -/
theorem law_s12 {head : Int} {th : Tok} {Q : Flow → Shared → Prop} (I : EnvIs env lawN) (X : Fx w s₀ env ⟨.of true, []⟩ m cm S s) (hm2 : m "head" = some (.int head th))
    (h : ∀ t s', Fx w s₀ env ⟨.of true, []⟩ (fun y => if y = "form" then some (.int ((head.fdiv 25920).fmod 3) t) else m y) cm S s' → Q .next s') :
    wpAny (model P0 w) A (exec (lawS 12) env) Q (fun _ _ => False) s := by
  show wpAny _ _ (exec (Stmt.Assign [Expr.Name _ _] _ _) _) _ _ _
  repeat (walk_at "m1")
  rename_i s₅ X₅
  exact h _ s₅ X₅

/-- handed = list(pieces) -/
theorem law_s13 {D : Addr} {items : Array Value} {k : Nat} {Q : Flow → Shared → Prop} (I : EnvIs env lawN) (X : Fx w s₀ env ⟨.of true, []⟩ m cm S s) (hm1 : m "pieces" = some (.ref D)) (hl : (D, lstO items k) ∈ S) (hz : items.size ≤ 200000)
    (h : ∀ D2 k2 s', Fx w s₀ env ⟨.of true, []⟩ (fun y => if y = "handed" then some (.ref D2) else m y) cm ((D2, lstO items k2) :: S) s' → Q .next s') :
    wpAny (model P0 w) A (exec (lawS 13) env) Q (fun _ _ => False) s := by
  show wpAny _ _ (exec (Stmt.Assign [Expr.Name _ _] _ _) _) _ _ _
  repeat (walk_at "m1")
  refine o_list X (X.has _ hl).1 rfl rfl hz fun D₁ c₁ s₁ X₁ => ?_
  repeat (walk_at "m1")
  rename_i s₅ X₅
  exact h D₁ c₁ s₅ X₅

def handX : Expr := match lawS 14 with | .Assign _ (.Call _ (e :: _) _ _) _ => e | _ => default
theorem hand_eval {whole : Str} {tw : Tok} {D D2 : Addr} {items items2 : Array Value} {k k2 : Nat} {form : Int} {tf : Tok} {ps : List Str} (I : EnvIs env lawN) (X : Fx w s₀ env ⟨.of true, []⟩ m cm S s) (hm1 : m "whole" = some (.str whole tw)) (hm2 : m "form" = some (.int form tf)) (hm3 : m "handed" = some (.ref D2)) (hm4 : m "pieces" = some (.ref D))
    (hl : (D, lstO items k) ∈ S) (hl2 : (D2, lstO items2 k2) ∈ S) (hi : StrsOf items ps) (hi2 : StrsOf items2 ps) (hs : (ps.map (·.length)).sum ≤ 100000) (hw : whole = Txt.join (Str.ofString "") ps) (hwl : whole.length ≤ 100000) (hn : ps.length ≤ 1000) :
    wpAny (model P0 w) A (eval handX env) (fun tv s' => ∃ S', Fx w s₀ env ⟨.of true, []⟩ m cm (S' ++ S) s' ∧ Joins w (S' ++ S) tv whole) E s := by
  show wpAny _ _ (eval (Expr.IfExp _ _ _ _) _) _ _ _
  refine IfExp_ ?_
  repeat (walk_at "m1")
  rename_i t₁ s₁ X₁
  by_cases h0 : form = 0
  · rw [if_pos (by rw [h0]; rfl)]
    repeat (walk_at "m1")
    exact ⟨[], X₁, joins_str hwl⟩
  · rw [if_neg (by rw [beq_iff_eq]; exact h0)]
    refine IfExp_ ?_
    repeat (walk_at "m1")
    rename_i t₂ s₂ X₂
    by_cases h1 : form = 1
    · rw [if_pos (by rw [h1]; rfl)]
      repeat (walk_at "m1")
      exact ⟨[], X₂, hw ▸ joins_list hl2 rfl rfl hi2.are hs⟩
    · rw [if_neg (by rw [beq_iff_eq]; exact h1)]
      repeat (walk_at "m1")
      refine o_tupleOf X₂ hl (by rw [hi.size]; show ps.length ≤ _; omega) fun D₃ s₃ X₃ => ?_
      exact ⟨[_], X₃, hw ▸ joins_tuple (.head _) rfl rfl hi.are hs⟩

/-- cut = text_to_multi_tags(.., code, size, end) -/
theorem law_s14 {whole e : Str} {tw te tc tz : Tok} {D D2 : Addr} {items items2 : Array Value} {k k2 : Nat} {form code : Int} {tf : Tok} {sz : Nat} {ps : List Str} {cc cz : Addr} {Q : Flow → Shared → Prop} (I : EnvIs env lawN) (hA : AO (dd + 40) A) (hdd : dd ≤ 60) (X : Fx w s₀ env ⟨.of true, []⟩ m cm S s)
    (hm1 : m "whole" = some (.str whole tw)) (hm2 : m "form" = some (.int form tf)) (hm3 : m "handed" = some (.ref D2)) (hm4 : m "pieces" = some (.ref D)) (hm5 : m "end" = some (.str e te)) (hc1 : env.cells.lookup ("code" : Str) = some cc) (hc2 : env.cells.lookup ("size" : Str) = some cz)
    (hv1 : cm "code" = some (.int code tc)) (hv2 : cm "size" = some (.int (sz : Int) tz))
    (hl : (D, lstO items k) ∈ S) (hl2 : (D2, lstO items2 k2) ∈ S) (hi : StrsOf items ps) (hi2 : StrsOf items2 ps) (hs : (ps.map (·.length)).sum ≤ 100000) (hw : whole = Txt.join (Str.ofString "") ps) (hwl : whole.length ≤ 100000) (hn : ps.length ≤ 1000)
    (hte0 : te ≠ 0) (hte : te < s.toks) (hle : ((Str.ofString "\n") == e) = false) (hll : e.length ≤ 14) (hsaid : (Txt.replace whole (Str.ofString "\n") e).length ≤ 100000) (hsz : 0 < sz) (hsz2 : sz ≤ 1000)
    (h : ∀ t S' s', Fx w s₀ env ⟨.of true, []⟩ (fun y => if y = "cut" then some (.ref t) else m y) cm (S' ++ S) s' → TT (S' ++ S) t (chunks (Txt.replace whole (Str.ofString "\n") e) sz (.int code tc)) → Q .next s') :
    wpAny (model P0 w) A (exec (lawS 14) env) Q (fun _ _ => False) s := by
  show wpAny _ _ (exec (Stmt.Assign [Expr.Name _ _] _ _) _) _ _ _
  iterate 3 (walk_at "m1")
  refine callWith_K X.ok.K (by kernel_rfl) ?_
  refine wpAny_with_toks (Nat.succ_le_of_lt hte) ?_
  refine spliced_more ?_
  refine wpAny_mono (hand_eval I X hm1 hm2 hm3 hm4 hl hl2 hi hi2 hs hw hwl hn) (fun tv s₁ h₁ => ?_) fun _ _ z => z
  obtain ⟨S₁, X₁, hj⟩ := h₁
  repeat (walk_at "m1")
  intro htk
  refine ⟨X₁.ok.K, ?_⟩
  show wpAny _ _ (call (.ref 347) [tv, .int code tc, .int (sz : Int) tz, .str e te]) _ _ _
  refine wpAny_mono (ttm_spec (d := dd) X₁.ok X₁.has hA hdd hj hte0 (Nat.lt_of_succ_le htk) hle hwl hll hsaid hsz hsz2) (fun v s₂ h₂ => ?_) fun _ _ z => z
  obtain ⟨S₂, ⟨t, rfl, hT⟩, X₂⟩ := X₁.call h₂
  repeat (walk_at "m1")
  rename_i s₃ X₃
  refine h t (S₂ ++ S₁) s₃ (by rw [List.append_assoc]; exact X₃) ?_
  exact hT.sub fun p hp => by rw [List.append_assoc]; exact List.mem_append_left _ hp
end
end

section
theorem TT.tp {S : List (Addr × Obj)} {t : Addr} {texts : List (Value × Str)} {ps : List (Int × Str)} (h : TT S t texts) (hlen : texts.length = ps.length) (hp : ∀ (j : Nat) (q : Value × Str), (texts[j]? : Option (Value × Str)) = some q → ∃ p tc, (ps[j]? : Option (Int × Str)) = some p ∧ q = (.int p.1 tc, p.2)) : TP S t ps := by
  obtain ⟨us, hu, ol, items, n, h1, h2, h3, h4⟩ := h
  refine ⟨ol, items, n, h1, h2, by rw [h3, List.length_map, List.length_zip, hu, Nat.min_self, hlen], fun j r e => ?_⟩
  obtain ⟨c, v, x, y⟩ := h4 j r e
  rw [List.getElem?_map] at y
  cases hz : (texts.zip us)[j]? with
  | none => rw [hz] at y; cases y
  | some z =>
    rw [hz] at y
    obtain ⟨q, u⟩ := z
    have hz' := List.getElem?_zip_eq_some.mp hz
    obtain ⟨p, tc, hpj, rfl⟩ := hp j q hz'.1
    cases y
    exact ⟨p, tc, u, hpj, x⟩
theorem chunks_tp {said : Str} {sz : Nat} {code : Int} {tc : Tok} (j : Nat) (q : Value × Str) (h : ((chunks said sz (.int code tc))[j]? : Option (Value × Str)) = some q) : ∃ p tc, ((chunksI said sz code)[j]? : Option (Int × Str)) = some p ∧ q = (.int p.1 tc, p.2) := by
  unfold chunks at h
  rw [List.getElem?_map] at h
  cases hr : (List.range (chunkN said.length sz))[j]? with
  | none => rw [hr] at h; cases h
  | some i =>
    rw [hr] at h; cases h
    exact ⟨(code, chunk said sz i), tc, by unfold chunksI; rw [List.getElem?_map, hr]; rfl, rfl⟩
theorem TT.tpc {S : List (Addr × Obj)} {t : Addr} {said : Str} {sz : Nat} {code : Int} {tc : Tok} (h : TT S t (chunks said sz (.int code tc))) : TP S t (chunksI said sz code) :=
  h.tp (by simp [chunks, chunksI]) chunks_tp
theorem kq_pairs {ps : List (Int × Str)} (h : ∀ p ∈ ps, PyData.strOk p.2 = true) : kqdOk 8 (.list (ps.map pairDat)) = true := by
  simp only [kqdOk, List.all_eq_true, List.mem_map]
  rintro d ⟨p, hp, rfl⟩
  simp [pairDat, kqdOk, h p hp]
theorem kq_strs {ps : List Str} (h : ∀ p ∈ ps, PyData.strOk p = true) : kqdOk 8 (.list (ps.map Dat.str)) = true := by
  simp only [kqdOk, List.all_eq_true, List.mem_map]
  rintro d ⟨p, hp, rfl⟩
  simp [kqdOk, h p hp]
theorem StrsOf.dat {B : List (Addr × Obj)} {l : Addr} {items : Array Value} {k : Nat} {ps : List Str} (h : (l, lstO items k) ∈ B) (hi : StrsOf items ps) : DatIn B (.ref l) (.list (ps.map Dat.str)) := by
  have h1' : (l, listOf items.toList.toArray k) ∈ B := by rw [Array.toArray_toList]; exact h
  refine .list h1' (datAll_of _ _ (by rw [List.length_map]; simpa using hi.size) fun j v e => ?_)
  obtain ⟨x, t, hx, rfl⟩ := hi.at (by rw [← Array.getElem?_toList]; exact e)
  exact ⟨.str x, by rw [List.getElem?_map, hx]; rfl, .str _ _⟩
section
variable {w : World} {A : Around} {E : Value → Shared → Prop} {s₀ s s' b : Shared} {env : Env} {ow : Ow} {m cm : Str → Option Value} {S : List (Addr × Obj)} {v : Value} {dd : Nat}

/-- if _law_pairs(cut) != parts or multi_tags_to_text(cut, end) != back or handed != pieces: return False -/
theorem law_s15 {t D D1 D2 : Addr} {texts : List (Value × Str)} {ps : List (Int × Str)} {e bk : Str} {te tb : Tok} {items1 items2 : Array Value} {k1 k2 : Nat} {sts : List Str} {Q : Flow → Shared → Prop} (I : EnvIs env lawN) (hA : AO (dd + 40) A) (hdd : dd ≤ 60) (X : Fx w s₀ env ⟨.of true, []⟩ m cm S s)
    (hm1 : m "cut" = some (.ref t)) (hm2 : m "parts" = some (.ref D)) (hm3 : m "end" = some (.str e te)) (hm4 : m "back" = some (.str bk tb)) (hm5 : m "handed" = some (.ref D2)) (hm6 : m "pieces" = some (.ref D1))
    (hT : TT S t texts) (hTP : TP S t ps) (hPL : PL S D ps) (hl1 : (D1, lstO items1 k1) ∈ S) (hl2 : (D2, lstO items2 k2) ∈ S) (hi1 : StrsOf items1 sts) (hi2 : StrsOf items2 sts)
    (hok : ∀ p ∈ ps, PyData.strOk p.2 = true) (hok2 : ∀ x ∈ sts, PyData.strOk x = true) (hn : ps.length ≤ 100000) (hnt : texts.length ≤ 100000) (hsum : ((texts.map (·.2)).map (·.length)).sum ≤ 100000)
    (hte0 : te ≠ 0) (hte : te < s.toks) (hle : (e == (Str.ofString "\n")) = false) (hbk : Txt.replace (Txt.join (Str.ofString "") (texts.map (·.2))) e (Str.ofString "\n") = bk)
    (h : ∀ S' s', Fx w s₀ env ⟨.of true, []⟩ m cm (S' ++ S) s' → Q .next s') :
    wpAny (model P0 w) A (exec (lawS 15) env) Q (fun _ _ => False) s := by
  show wpAny _ _ (exec (Stmt.If _ _ _ _) _) _ _ _
  refine wpAny_If (isTrue_or ?_)
  refine wpAny_with_toks (Nat.succ_le_of_lt hte) ?_
  iterate 3 (walk_at "m1")
  refine callWith_K X.ok.K (by kernel_rfl) ?_
  repeat (walk_at "m1")
  refine ⟨X.ok.K, ?_⟩
  refine wpAny_mono (pairs_spec (dd := dd) X.ok X.has hTP (hA.le (by omega)) (by omega) hn) (fun v s₁ h₁ => ?_) fun _ _ z => z
  obtain ⟨S₁, ⟨l, rfl, hl⟩, X₁⟩ := X.call h₁
  repeat (walk_at "m1")
  refine nev_dat (dd := dd) X₁.has (hl.sub fun p hp => List.mem_append_left _ hp).dat (hPL.sub fun p hp => List.mem_append_right _ hp).dat (kq_pairs hok) (kq_pairs hok) (hA.le (by omega)) fun bb hb => ?_
  rw [hb.mpr rfl]
  refine wpAny_truthy_bool ?_
  intro htk
  rw [if_neg (by decide)]
  refine isTrue_or ?_
  iterate 3 (walk_at "m1")
  refine callWith_K X₁.ok.K (by kernel_rfl) ?_
  repeat (walk_at "m1")
  refine ⟨X₁.ok.K, ?_⟩
  show wpAny _ _ (call (.ref 355) [.ref t, .str e te]) _ _ _
  refine wpAny_mono (mtt_spec (d := dd) X₁.ok X₁.has (hA.le (by omega)) (by omega) (hT.sub fun p hp => List.mem_append_right _ hp) hnt hsum hte0 (Nat.lt_of_succ_le htk) hle) (fun v s₂ h₂ => ?_) fun _ _ z => z
  obtain ⟨S₂, ⟨t', rfl⟩, X₂⟩ := X₁.call h₂
  repeat (walk_at "m1")
  rw [hbk, if_neg (by simp)]
  refine isTrue_or ?_
  repeat (walk_at "m1")
  refine nev_dat (dd := dd) X₂.has (hi2.dat (List.mem_append_right _ (List.mem_append_right _ hl2))) (hi1.dat (List.mem_append_right _ (List.mem_append_right _ hl1))) (kq_strs hok2) (kq_strs hok2) (hA.le (by omega)) fun b3 hb3 => ?_
  rw [hb3.mpr rfl]
  refine wpAny_truthy_bool ?_
  rw [if_neg (by decide)]
  refine isTrue_or_nil ?_
  rw [if_neg (by decide)]
  repeat (walk_at "m1")
  exact h (S₂ ++ S₁) s₂ (by rw [List.append_assoc]; exact X₂)
end
end

section
section
variable {w : World} {A : Around} {E : Value → Shared → Prop} {s₀ s s' b : Shared} {env : Env} {ow : Ow} {m cm : Str → Option Value} {S : List (Addr × Obj)} {v : Value} {dd : Nat}

/-- told = text_to_multi_tags(whole) -/
theorem law_s16 {whole : Str} {tw : Tok} {Q : Flow → Shared → Prop} (I : EnvIs env lawN) (hA : AO (dd + 40) A) (hdd : dd ≤ 60) (X : Fx w s₀ env ⟨.of true, []⟩ m cm S s)
    (hm1 : m "whole" = some (.str whole tw)) (htk : 700 < s.toks) (hwl : whole.length ≤ 100000) (hsaid : (Txt.replace whole (Str.ofString "\n") (Str.ofString "^J")).length ≤ 100000)
    (h : ∀ t S' s', Fx w s₀ env ⟨.of true, []⟩ (fun y => if y = "told" then some (.ref t) else m y) cm (S' ++ S) s' → TT (S' ++ S) t (chunks (Txt.replace whole (Str.ofString "\n") (Str.ofString "^J")) 255 (.int 303 623)) → Q .next s') :
    wpAny (model P0 w) A (exec (lawS 16) env) Q (fun _ _ => False) s := by
  show wpAny _ _ (exec (Stmt.Assign [Expr.Name _ _] _ _) _) _ _ _
  iterate 3 (walk_at "m1")
  refine callWith_K X.ok.K (by kernel_rfl) ?_
  repeat (walk_at "m1")
  refine ⟨X.ok.K, ?_⟩
  refine wpAny_mono (ttm_spec1 (d := dd) X.ok X.has hA hdd (joins_str hwl) htk hwl hsaid) (fun v s₂ h₂ => ?_) fun _ _ z => z
  obtain ⟨S₂, ⟨t, rfl, hT⟩, X₂⟩ := X.call h₂
  repeat (walk_at "m1")
  rename_i s₃ X₃
  exact h t S₂ s₃ X₃ (hT.sub fun p hp => List.mem_append_left _ hp)

/-- plain = _law_swap(whole, '\n', '^J') -/
theorem law_s17 {whole : Str} {tw : Tok} {c : Addr} {Q : Flow → Shared → Prop} (I : EnvIs env lawN) (hA : AO (dd + 20) A) (X : Fx w s₀ env ⟨.of true, []⟩ m cm S s) (hm1 : m "whole" = some (.str whole tw)) (hc : env.cells.lookup ("plain" : Str) = some c)
    (hw : whole.length ≤ 4000)
    (h : ∀ t S' s', Fx w s₀ env ⟨.of true, []⟩ m (fun y => if y = "plain" then some (.str (swapS whole "\n" "^J") t) else cm y) (S' ++ S) s' → Q .next s') :
    wpAny (model P0 w) A (exec (lawS 17) env) Q (fun _ _ => False) s := by
  show wpAny _ _ (exec (Stmt.Assign [Expr.Name _ _] _ _) _) _ _ _
  iterate 3 (walk_at "m1")
  refine callWith_K X.ok.K (by kernel_rfl) ?_
  repeat (walk_at "m1")
  rename_i t₁ s₁ X₁ t₂ s₂ X₂
  refine ⟨X₂.ok.K, ?_⟩
  refine wpAny_mono (swap_spec (d := dd) X₂.ok (hA.le (by omega)) hw (by decide) (by decide) (by decide)) (fun v s₂ h₂ => ?_) fun _ _ z => z
  obtain ⟨S', ⟨t, rfl⟩, X₂⟩ := X₂.call h₂
  repeat (walk_at "m1")
  rename_i s₃ X₃
  exact h t S' s₃ X₃

/-- if _law_pairs(told) != [(303, plain[k:k + 255]) for k in range(0, len(plain), 255)]: return False -/
theorem law_s18 {t : Addr} {plain : Str} {tp : Tok} {L : Addr} {Q : Flow → Shared → Prop} (I : EnvIs env lawN) (hA : AO (dd + 40) A) (hdd : dd ≤ 60) (X : Fx w s₀ env ⟨.of true, []⟩ m cm S s) (hcl : env.cells = cellsFrom (L + 1) lawN [])
    (hm1 : m "told" = some (.ref t)) (hv1 : cm "plain" = some (.str plain tp)) (hTP : TP S t (chunksI plain 255 303)) (hl : plain.length ≤ 100000) (hok : ∀ p ∈ chunksI plain 255 303, PyData.strOk p.2 = true)
    (h : ∀ S' s', Fx w s₀ env ⟨.of true, []⟩ m cm (S' ++ S) s' → Q .next s') :
    wpAny (model P0 w) A (exec (lawS 18) env) Q (fun _ _ => False) s := by
  have hl2 := law_cells hcl
  have k1 : env.cells.lookup ("plain" : Str) = some (L + 4) := by rw [hl2]; rfl
  have hN := chunkN_le (len := plain.length) (show 0 < 255 by decide)
  show wpAny _ _ (exec (Stmt.If _ _ _ _) _) _ _ _
  iterate 4 (walk_at "m1")
  refine callWith_K X.ok.K (by kernel_rfl) ?_
  repeat (walk_at "m1")
  refine ⟨X.ok.K, ?_⟩
  refine wpAny_mono (pairs_spec (dd := dd) X.ok X.has hTP (hA.le (by omega)) (by omega) (by rw [chunksI_len]; omega)) (fun v s₁ h₁ => ?_) fun _ _ z => z
  obtain ⟨S₁, ⟨l, rfl, hl'⟩, X₁⟩ := X.call h₁
  refine lc_eval (cl := [(("plain" : Str), L + 4)]) I ?_ (by rfl) (by decide) (by decide) (by rfl) (by intro _; rfl) ?_
  · unfold closureFor cellOf; rw [hl2]; rfl
  repeat (walk_at "m1")
  rename_i t₁ s₂ X₂ t₂ s₃ X₃ t₃ s₄ X₄
  show wpAny _ _ (call (.type "range") [.int 0 _, .int (plain.length : Int) _, .int ((255 : Nat) : Int) _]) _ _ _
  refine o_range X₄ (by decide) (PyProof.noPylong_small (by decide)) fun r s₅ X₅ => ?_
  refine wpAny_pyIter_range (X₅.has _ (.head _)).1 (range_small (by decide) (by decide) hl) ?_
  refine ⟨s₅, _, _, chunkN plain.length 255, dd, _, pairA (chunksI plain 255 303), cm, [], rfl, (Bx.self X₅.ok).grow (t := s₅.toks) (fun a o e => Heap.get?_push_of_some _ e), Ready0.range X₅.ok (by decide) (by omega), by omega, hA.le (by omega), (fun n c e => ?_), (fun p hp => ?_), .cons (fun p hp => nomatch hp) .nil, HS.nil, pairA_cls, ?_, ?_⟩
  · have hmem := mem_of_lookup e
    rw [List.mem_singleton, Prod.mk.injEq] at hmem
    obtain ⟨rfl, rfl⟩ := hmem
    exact X₅.cell _ _ k1
  · rw [List.mem_singleton.mp hp]; exact X₅.cn _ (mem_of_lookup k1)
  · intro C i v T s m₂ b' hR hmx Y
    obtain ⟨rfl, hi, tk, rfl⟩ := hR
    have Ic := relabel_fx Y I (by rfl)
    clear I X X₁ X₂ X₃ X₄ X₅
    generalize hce : compEnvC _ _ C env = cenv at Y Ic ⊢
    have j0 : cenv.cells = [(("plain" : Str), L + 4)] := by rw [← hce]; rfl
    have j1 : cenv.cells.lookup ("plain" : Str) = some (L + 4) := by rw [j0]; rfl
    clear hce
    repeat (walk_at "m1")
    rename_i tc s₄ Y₄ tq s₆ Y₆ tq2 s₅ Y₅
    refine ⟨plain, _, _, _, _, _, _, _, _, rfl, rfl, rfl, by rw [sizeLine_eq]; omega, Y₅, fun t' s₆ Y₆ => ?_⟩
    rw [show Txt.slice plain (some ((i : Int) * ((255 : Nat) : Int))) (some ((i : Int) * ((255 : Nat) : Int) + 255)) = chunk plain 255 i from chunk_as plain 255 i]
    repeat (walk_at "m1")
    rename_i a s₇ Y₇
    exact ⟨_, _, _, Y₇, fun p hp => List.mem_singleton.mp hp ▸ .head _, a, _, t', 0, (303, chunk plain 255 i), by unfold chunksI; rw [List.getElem?_map, List.getElem?_range hi]; rfl, rfl, rfl⟩
  · intro s₆ D k acc F B₆ hF hacc hD
    rw [← chunksI_len plain 255 303] at hacc
    have X₆ := (X₅.step B₆.ok B₆.kt B₆.os B₆.ge).more hF
    refine nev_dat (dd := dd) X₆.has (hl'.sub fun p hp => List.mem_append_right _ (.tail _ (List.mem_append_left _ hp))).dat ((PL.of hacc).sub fun p hp => List.mem_append_left _ hp).dat (kq_pairs hok) (kq_pairs hok) (hA.le (by omega)) fun bb hb => ?_
    rw [hb.mpr rfl]
    refine wpAny_truthy_bool ?_
    rw [if_neg (by decide)]
    repeat (walk_at "m1")
    exact h [] s₆ (X₆.less fun p hp => List.mem_append_right _ (.tail _ (List.mem_append_right _ hp)))

/-- if multi_tags_to_text(told) != _law_swap(plain, '^J', '\n'): return False -/
theorem law_s19 {t : Addr} {plain : Str} {tp : Tok} {texts : List (Value × Str)} {c : Addr} {Q : Flow → Shared → Prop} (I : EnvIs env lawN) (hA : AO (dd + 40) A) (hdd : dd ≤ 60) (X : Fx w s₀ env ⟨.of true, []⟩ m cm S s)
    (hm1 : m "told" = some (.ref t)) (hc : env.cells.lookup ("plain" : Str) = some c) (hv1 : cm "plain" = some (.str plain tp)) (hT : TT S t texts) (hnt : texts.length ≤ 100000) (hsum : ((texts.map (·.2)).map (·.length)).sum ≤ 100000)
    (hp : plain.length ≤ 4000) (htk : 700 < s.toks) (hbk : Txt.replace (Txt.join (Str.ofString "") (texts.map (·.2))) (Str.ofString "^J") (Str.ofString "\n") = swapS plain "^J" "\n")
    (h : ∀ S' s', Fx w s₀ env ⟨.of true, []⟩ m cm (S' ++ S) s' → Q .next s') :
    wpAny (model P0 w) A (exec (lawS 19) env) Q (fun _ _ => False) s := by
  show wpAny _ _ (exec (Stmt.If _ _ _ _) _) _ _ _
  iterate 4 (walk_at "m1")
  refine callWith_K X.ok.K (by kernel_rfl) ?_
  repeat (walk_at "m1")
  refine ⟨X.ok.K, ?_⟩
  refine wpAny_mono (mtt_spec1 (d := dd) X.ok X.has (hA.le (by omega)) (by omega) hT hnt hsum htk) (fun v s₂ h₂ => ?_) fun _ _ z => z
  obtain ⟨S₂, ⟨t', rfl⟩, X₂⟩ := X.call h₂
  iterate 2 (walk_at "m1")
  refine callWith_K X₂.ok.K (by kernel_rfl) ?_
  repeat (walk_at "m1")
  rename_i t₁ s₃ X₃ t₂ s₄ X₄
  refine ⟨X₄.ok.K, ?_⟩
  refine wpAny_mono (swap_spec (d := dd) X₄.ok (hA.le (by omega)) hp (by decide) (by decide) (by decide)) (fun v s₂ h₂ => ?_) fun _ _ z => z
  obtain ⟨S', ⟨t, rfl⟩, X₅⟩ := X₄.call h₂
  repeat (walk_at "m1")
  rw [hbk, if_neg (by simp)]
  repeat (walk_at "m1")
  exact h (S' ++ S₂) _ (by rw [List.append_assoc]; exact X₅)
end
end

section
section
variable {w : World} {A : Around} {E : Value → Shared → Prop} {s s' : Shared}
theorem xd_make2 {dd : Nat} (ok : Ok w s.heap) (hA : AO (dd + 3) A) : wpAny (model P0 w) A (call (.ref 494) []) (fun v s' => ∃ x dx d tk, v = .ref x ∧ Bx w s s' ∧ XD w s'.heap x dx d tk emptyDict ∧ s.heap.get? x = none ∧ s.heap.get? dx = none ∧ s.heap.get? d = none ∧ dx ≠ x ∧ d ≠ x ∧ d ≠ dx ∧ s.heap.objs.size ≤ d) E s := by
  obtain ⟨oc, od, fd, sl, hlook, F, hclo, hb⟩ := fnXInit w
  obtain ⟨hh, g, dr, t, os⟩ := s
  refine wpAny_call (make_core (makes_of ok.K (by kernel_rfl)) (looks_findIn ok.K (show findIn (KF w) (.ref 494) "__init__" = some (some (.ref 397)) by kernel_rfl)) (fun self => bind_fn ok.K self (by kernel_rfl)) (.inl rfl) ?_)
  have kk : ∀ b o, hh.get? b = some o → ((hh.push emptyDict).push (instObj 494 hh.objs.size)).get? b = some o := fun b o e => Heap.get?_push_of_some _ (Heap.get?_push_of_some _ e)
  have nx : hh.get? (hh.objs.size + 1) = none := Heap.get?_none_of_le (Nat.le_succ _)
  have nd : hh.get? hh.objs.size = none := Heap.get?_none_of_le (Nat.le_refl _)
  have gx : ((hh.push emptyDict).push (instObj 494 hh.objs.size)).get? (hh.objs.size + 1) = some (instObj 494 hh.objs.size) := by heap_get
  have gd : ((hh.push emptyDict).push (instObj 494 hh.objs.size)).get? hh.objs.size = some emptyDict := by heap_get
  refine codeAny_mono (callQ (E := fun _ _ => False) (Q := fun r s' => r = .none ∧ ∃ d tk, Bx w ⟨hh, g, dr, t, os⟩ s' ∧ XD w s'.heap (hh.objs.size + 1) hh.objs.size d tk emptyDict ∧ hh.get? d = none ∧ d ≠ hh.objs.size + 1 ∧ d ≠ hh.objs.size ∧ hh.objs.size ≤ d) (D := [(hh.objs.size, emptyDict), (hh.objs.size + 1, instObj 494 hh.objs.size)]) (d := dd + 1)
    (ok.keeps kk) HS.nil ?_ hA.tcall hlook F hclo (kp_binds (ok.keeps kk).K (hb _)) (by rfl) ?_) ?_
  · intro p hp
    simp only [List.mem_cons, List.not_mem_nil, or_false] at hp
    rcases hp with rfl | rfl
    · exact ⟨gd, ok.fresh nd⟩
    · exact ⟨gx, ok.fresh nx⟩
  · intro env s₁ L m cm I hc hcode hq hA' hm hcm X
    replace X := X.older (s₁ := ⟨hh, g, dr, t, os⟩) ok (KT.of kk) rfl (GE.refl _)
    have hm1 := (hm "self" (by rfl)).trans (show _ = some (Value.ref (hh.objs.size + 1)) from rfl)
    have hm2 := (hm "xdata" (by rfl)).trans (show _ = some Value.none from rfl)
    walk_at "m1"
    walk_at "m1"
    refine Call_ ?_
    walk_at "m1"
    refine callWith_type0 ?_
    refine dict0 ?_
    have nd2 : s₁.heap.get? s₁.heap.objs.size = none := Heap.get?_none_of_le (Nat.le_refl _)
    have hlx := Heap.lt_size (X.dd _ (.tail _ (.head _))).1
    have hld := Heap.lt_size (X.dd _ (.head _)).1
    have X2 := (X.grow (h' := s₁.heap.push emptyDict) (t := s₁.toks) fun _ _ e => Heap.get?_push_of_some _ e).addD (D' := [(s₁.heap.objs.size, emptyDict)]) fun p hp => by
      rw [List.mem_singleton.mp hp]
      refine ⟨Heap.get?_push_size _ rfl, X.ok.fresh nd2, fun q => ?_, fun q hq e => ?_⟩
      · obtain ⟨oL, es, ep, eL, _⟩ := X.ns
        rw [← q] at eL; exact absurd (Heap.lt_size eL) (Nat.lt_irrefl _)
      · rw [hc] at hq
        exact absurd hq (by rw [show cellsFrom (L + 1) (namesOf xInitD) [] = [] from rfl]; exact List.not_mem_nil)
    have X3 := X2.dropD (D' := [(hh.objs.size, emptyDict), (hh.objs.size + 1, instObj 494 hh.objs.size), (s₁.heap.objs.size, emptyDict)]) (fun p hp => by
      simp only [List.mem_cons, List.not_mem_nil, or_false, List.cons_append, List.nil_append] at hp ⊢
      rcases hp with h | h | h
      · exact .inr (.inl h)
      · exact .inr (.inr h)
      · exact .inl h)
    walk_at "m1"
    refine xd_set X3 nd ?_ (fun p hp => nomatch hp) (by kernel_rfl) (by kernel_rfl) (by kernel_rfl) (by kernel_rfl) (fun tk => by rfl) fun tk s₃ X4 => ?_
    · intro p hp
      simp only [List.mem_cons, List.not_mem_nil, or_false] at hp
      rcases hp with rfl | rfl
      · exact Nat.succ_ne_self _
      · exact Nat.ne_of_gt hld
    show wpAny _ _ (execs _ env) _ _ _
    repeat (walk_at "m1")
    rw [if_neg (by decide)]
    walk_at "m1"
    dsimp only
    walk_at "m1"
    have e1 := X4.dd _ (.head _)
    have e2 := X4.dd _ (.tail _ (.head _))
    have e3 := X4.dd _ (.tail _ (.tail _ (.head _)))
    exact ⟨rfl, _, _, X4.bx, ⟨e2.1, e1.1, e3.1⟩, X.bx.new0 nd2, Nat.ne_of_gt hlx, Nat.ne_of_gt hld, Nat.le_of_lt hld⟩
  · rintro r s' ⟨v', rfl, rfl, d, tk, h1, h2, h3, h4, h5⟩
    exact ⟨rfl, _, _, _, _, rfl, h1, h2, nx, nd, h3, Nat.ne_of_lt (Nat.lt_succ_self _), h4, h5⟩
end
section
variable {w : World} {A : Around} {E : Value → Shared → Prop} {s₀ s s' b : Shared} {env : Env} {ow : Ow} {m cm : Str → Option Value} {S : List (Addr × Obj)} {v : Value} {dd : Nat}

abbrev xdL (w : World) (x dx d : Addr) (tk : Tok) (od : Obj) : List (Addr × Obj) := [(d, od), (x, instObj 494 dx), (dx, dict1 w "data" tk (.ref d))]
/-- xdata = XData() -/
theorem law_s20 {Q : Flow → Shared → Prop} (I : EnvIs env lawN) (hA : AO (dd + 20) A) (X : Fx w s₀ env ⟨.of true, []⟩ m cm S s) (hce : ∀ q ∈ env.cells, ∃ n, env.cells.lookup n = some q.2)
    (h : ∀ x dx d tk s', Fx w s₀ env ⟨.of true, xdL w x dx d tk emptyDict⟩ (fun y => if y = "xdata" then some (.ref x) else m y) cm S s' → s₀.heap.get? d = none → (d == sysModules) = false → d ≠ x → d ≠ dx → Q .next s') :
    wpAny (model P0 w) A (exec (lawS 20) env) Q (fun _ _ => False) s := by
  show wpAny _ _ (exec (Stmt.Assign [Expr.Name _ _] _ _) _) _ _ _
  iterate 3 (walk_at "m1")
  refine callWith_K0 X.ok.K (by kernel_rfl) ?_
  refine wpAny_mono (xd_make2 (dd := dd) X.ok (hA.le (by omega))) (fun v s₁ h₁ => ?_) fun _ _ z => z
  obtain ⟨x, dx, d, tk, rfl, B, D, n1, n2, n3, q1, q2, q3, q4⟩ := h₁
  have hne : ∀ a, s.heap.get? a = none → a ≠ env.locals ∧ ∀ q ∈ env.cells, q.2 ≠ a := fun a e => by
    refine ⟨fun q => ?_, fun q hq z => ?_⟩
    · obtain ⟨o, _, _, e', _⟩ := X.ns
      rw [← q, e] at e'; cases e'
    · obtain ⟨n, hn⟩ := hce q hq
      obtain ⟨o, e', _⟩ := X.cell n q.2 hn
      rw [z, e] at e'; cases e'
  have X₁ := (X.step B.ok B.kt B.os B.ge).addD (D' := xdL w x dx d tk emptyDict) (fun p hp => by
    simp only [List.mem_cons, List.not_mem_nil, or_false] at hp
    rcases hp with rfl | rfl | rfl
    · exact ⟨D.hd, X.ok.fresh n3, hne _ n3⟩
    · exact ⟨D.hx, X.ok.fresh n1, hne _ n1⟩
    · exact ⟨D.hdx, X.ok.fresh n2, hne _ n2⟩)
  rw [List.append_nil] at X₁
  repeat (walk_at "m1")
  rename_i s₂ X₂
  refine h x dx d tk s₂ X₂ (X.bx.new0 n3) ?_ q2 q3
  rw [beq_eq_false_iff_ne]
  intro e
  have h2 := Heap.lt_size (X.ok.K 2 _ (show (KF w).lookup 2 = some _ from rfl))
  rw [e] at q4
  exact absurd (Nat.lt_of_lt_of_le h2 q4) (by decide)

/-- other = text_to_multi_tags('other', 1000, 2, end) -/
theorem law_s21 {D : List (Addr × Obj)} {e : Str} {te : Tok} {Q : Flow → Shared → Prop} (I : EnvIs env lawN) (hA : AO (dd + 40) A) (hdd : dd ≤ 60) (X : Fx w s₀ env ⟨.of true, D⟩ m cm S s)
    (hm5 : m "end" = some (.str e te)) (hte0 : te ≠ 0) (hte : te < s.toks) (hle : ((Str.ofString "\n") == e) = false) (hll : e.length ≤ 14) (hrep : Txt.replace (Str.ofString "other") (Str.ofString "\n") e = Str.ofString "other")
    (h : ∀ t tc S' s', Fx w s₀ env ⟨.of true, D⟩ (fun y => if y = "other" then some (.ref t) else m y) cm (S' ++ S) s' → TT (S' ++ S) t (chunks (Str.ofString "other") 2 (.int 1000 tc)) → Q .next s') :
    wpAny (model P0 w) A (exec (lawS 21) env) Q (fun _ _ => False) s := by
  show wpAny _ _ (exec (Stmt.Assign [Expr.Name _ _] _ _) _) _ _ _
  iterate 3 (walk_at "m1")
  refine callWith_K X.ok.K (by kernel_rfl) ?_
  refine wpAny_with_toks (Nat.succ_le_of_lt hte) ?_
  repeat (walk_at "m1")
  rename_i t1 s₁ X₁ t2 s₂ X₂ t3 s₃ X₃
  intro htk
  refine ⟨X₃.ok.K, ?_⟩
  show wpAny _ _ (call (.ref 347) [.str (Str.ofString "other") _, .int 1000 _, .int ((2 : Nat) : Int) _, .str e te]) _ _ _
  refine wpAny_mono (ttm_spec (d := dd) X₃.ok X₃.has hA hdd (joins_str (by decide)) hte0 (Nat.lt_of_succ_le htk) hle (by decide) hll (by rw [hrep]; decide) (by decide) (by decide)) (fun v s₂ h₂ => ?_) fun _ _ z => z
  obtain ⟨S₂, ⟨t, rfl, hT⟩, X₄⟩ := X₃.call h₂
  repeat (walk_at "m1")
  rename_i s₅ X₅
  rw [hrep] at hT
  exact h t _ S₂ s₅ X₅ (hT.sub fun p hp => List.mem_append_left _ hp)
end
end

section
theorem TP.sub {S T : List (Addr × Obj)} {t : Addr} {l : List (Int × Str)} (h : TP S t l) (k : ∀ p ∈ S, p ∈ T) : TP T t l :=
  let ⟨ol, items, n, h1, h2, h3, h4⟩ := h; ⟨ol, items, n, k _ h1, h2, h3, fun j r e => let ⟨p, tc, ty, y, x⟩ := h4 j r e; ⟨p, tc, ty, y, x.sub k⟩⟩
def framedL (nm : Str) (xs : List (Int × Str)) : List (Int × Str) := [(1000, nm ++ "_BEGIN")] ++ xs.map (fun p => (1000, p.2)) ++ [(1000, nm ++ "_END")]
def allL (os cs : List (Int × Str)) : List (Int × Str) := ([((1070 : Int), ("1" : Str))] : List (Int × Str)) ++ framedL "B" os ++ ([((1000 : Int), ("gap" : Str))] : List (Int × Str)) ++ framedL "A" cs ++ ([((1070 : Int), ("2" : Str))] : List (Int × Str))
theorem allL_codes (os cs : List (Int × Str)) : ∀ p ∈ allL os cs, p.1 ∈ validNs := by
  intro p hp
  have : p.1 = 1070 ∨ p.1 = 1000 := by
    simp only [allL, framedL, List.mem_append, List.mem_singleton, List.mem_map] at hp
    rcases hp with ((((rfl | ((rfl | ⟨q, _, rfl⟩) | rfl)) | rfl) | ((rfl | ⟨q, _, rfl⟩) | rfl)) | rfl) <;> first | exact .inl rfl | exact .inr rfl
  rcases this with e | e <;> rw [e] <;> decide
section
variable {w : World} {A : Around} {E : Value → Shared → Prop} {s₀ s s' b : Shared} {env : Env} {ow : Ow} {m cm : Str → Option Value} {S : List (Addr × Obj)} {v : Value} {dd : Nat}

theorem callWith_K_bin {M : Model} {K : Frag} {h₀ : Heap} {l r : Expr} {op : Operator} {pos bp cp : Pos} {u : Str} {kk : Nat} {f : Value} {first : List Value} {Q : Value → Shared → Prop} (X : K.In h₀) (hk : keepIn K f = true)
    (h : wpAny M A (eval (.Constant (.str u) kk cp) env) (fun v1 s1 => wpAny M A (eval (.BinOp l op r bp) env) (fun v2 s2 => K.In s2.heap ∧ wpAny M A (call f (first ++ [v1, v2])) Q E s2) E s1) E s) :
    wpAny M A (callWith pos f first (backTo pos (starEach [.Constant (.str u) kk cp, .BinOp l op r bp] env)) []) Q E s := by
  refine callWith_K X hk ?_
  refine spliced_more ?_
  refine wpAny_mono h (fun v s₁ h₁ => ?_) fun _ _ z => z
  refine spliced_more ?_
  refine wpAny_mono h₁ (fun v s₂ h₂ => ?_) fun _ _ z => z
  exact spliced_none h₂

/-- xdata.add('APP', ..) -/
theorem law_s22 {x dx d tg to : Addr} {tk : Tok} {os cs : List (Int × Str)} {Q : Flow → Shared → Prop} (I : EnvIs env lawN) (hA : AO (dd + 60) A) (hdd : dd ≤ 40) (X : Fx w s₀ env ⟨.of true, xdL w x dx d tk emptyDict⟩ m cm S s) (hd0 : s₀.heap.get? d = none) (hdx : d ≠ x) (hddx : d ≠ dx)
    (hm1 : m "xdata" = some (.ref x)) (hm2 : m "other" = some (.ref to)) (hm3 : m "cut" = some (.ref tg)) (hO : TP S to os) (hC : TP S tg cs) (hol : os.length ≤ 1000) (hcl : cs.length ≤ 40000)
    (h : ∀ t' od S' s', Fx w s₀ env ⟨.of true, xdL w x dx d tk od⟩ m cm (S' ++ S) s' → TP (S' ++ S) t' ((1001, "APP") :: allL os cs) → s'.heap.MapOf (strKind P0 w) d (fun y => if y = "APP" then some (.ref t') else none) → Q .next s') :
    wpAny (model P0 w) A (exec (lawS 22) env) Q (fun _ _ => False) s := by
  show wpAny _ _ (exec (Stmt.Expr _ _) _) _ _ _
  refine wpAny_Expr_any ?_ (interactive_fn I.kind) (by rfl)
  refine MethodCall_ ?_ (by rfl)
  walk_at "m1"
  have f1 := X.dd _ (.head _)
  have f2 := X.dd _ (.tail _ (.head _))
  have f3 := X.dd _ (.tail _ (.tail _ (.head _)))
  refine method_fn X.ok.K (⟨f2.1, rfl, rfl, f3.1⟩ : InstAt _ x (instObj 494 dx) 494 (some (dict1 w "data" tk (.ref d)))) (by kernel_rfl) (by kernel_rfl) (f := 442) (by kernel_rfl) (by kernel_rfl) (by kernel_rfl) ?_
  with_reducible refine callWith_K_bin X.ok.K ?hk ?hq
  case hk => kernel_rfl
  repeat (walk_at "m1")
  rename_i tup₁ s₁ X₁ l₁ s₂ X₂
  have p₁ := PL.oneX X₂
  refine callWith_K X₂.ok.K (by kernel_rfl) ?_
  repeat (walk_at "m1")
  rename_i t₃ s₃ X₃
  refine ⟨X₃.ok.K, ?_⟩
  show wpAny _ _ (call (.ref 524) [.str (Str.ofString "B") t₃, .ref to]) _ _ _
  refine wpAny_mono (framed_spec (dd := dd) X₃.ok X₃.has (hO.sub fun p hp => .tail _ (.tail _ hp)) (hA.le (by omega)) (by omega) (by omega) (by decide)) (fun v s₄ h₄ => ?_) fun _ _ z => z
  obtain ⟨S₄, ⟨l₄, rfl, p₄⟩, X₄⟩ := X₃.call h₄
  refine pl_add X₄ (p₁.sub fun p hp => List.mem_append_right _ hp) (p₄.sub fun p hp => List.mem_append_left _ hp) (by simp; omega) fun D₅ o₅ s₅ X₅ p₅ => ?_
  repeat (walk_at "m1")
  rename_i tup₆ s₆ X₆ l₇ s₇ X₇
  refine pl_add X₇ (p₅.sub fun p hp => .tail _ (.tail _ hp)) (PL.oneX X₇) (by simp; omega) fun D₈ o₈ s₈ X₈ p₈ => ?_
  iterate 2 (walk_at "m1")
  refine callWith_K X₈.ok.K (by kernel_rfl) ?_
  repeat (walk_at "m1")
  rename_i t₉ s₉ X₉
  refine ⟨X₉.ok.K, ?_⟩
  show wpAny _ _ (call (.ref 524) [.str (Str.ofString "A") t₉, .ref tg]) _ _ _
  refine wpAny_mono (framed_spec (dd := dd) X₉.ok X₉.has (hC.sub fun p hp => .tail _ (.tail _ (.tail _ (.tail _ (List.mem_append_right _ (.tail _ (.tail _ hp))))))) (hA.le (by omega)) (by omega) (by omega) (by decide)) (fun v s₁₀ h₁₀ => ?_) fun _ _ z => z
  obtain ⟨S₁₀, ⟨l₁₀, rfl, p₁₀⟩, X₁₀⟩ := X₉.call h₁₀
  refine pl_add X₁₀ (p₈.sub fun p hp => List.mem_append_right _ hp) (p₁₀.sub fun p hp => List.mem_append_left _ hp) (by simp; omega) fun D₁₁ o₁₁ s₁₁ X₁₁ p₁₁ => ?_
  repeat (walk_at "m1")
  rename_i tup₁₂ s₁₂ X₁₂ l₁₃ s₁₃ X₁₃
  refine pl_add X₁₃ (p₁₁.sub fun p hp => .tail _ (.tail _ hp)) (PL.oneX X₁₃) (by simp; omega) fun D₁₄ o₁₄ s₁₄ X₁₄ p₁₄ => ?_
  refine ⟨X₁₄.ok.K, ?_⟩
  have g1 := X₁₄.dd _ (.head _)
  have g2 := X₁₄.dd _ (.tail _ (.head _))
  have g3 := X₁₄.dd _ (.tail _ (.tail _ (.head _)))
  have p₁₅ : PL _ D₁₄ (allL os cs) := p₁₄
  refine wpAny_mono (add_spec (dd := dd) X₁₄.ok X₁₄.has hA hdd ⟨g2.2.1, g3.2.1, g1.2.1⟩ ⟨g2.1, g3.1, g1.1⟩ p₁₅.pt (by simp [allL, framedL]; omega) 1070 "1" _ rfl (by decide) (allL_codes os cs) ⟨by kernel_rfl, by kernel_rfl⟩) (fun v s₁₆ h₁₆ => ?_) fun _ _ z => z
  obtain ⟨rfl, s₁₅, t', S', B, hS', hTP, hd15, q1, q2, q3, q4, q5⟩ := h₁₆
  have X₁₅ := (X₁₄.step B.ok B.kt B.os B.ge).more hS'
  obtain ⟨od, es, ep, hod, hodr⟩ := id q5
  have f15 := X₁₅.dd _ (.head _)
  have X₁₆ := X₁₅.updD (o' := od) (h' := s₁₆.heap) (t := s₁₆.toks) hd0 (fun p hp => by
    simp only [List.mem_cons, List.not_mem_nil, or_false] at hp
    rcases hp with rfl | rfl
    · exact Ne.symm hdx
    · exact Ne.symm hddx) (fun p hp => X₁₅.dictNot hp f15.1 rfl) (.dict rfl) hod q4.extBut
  have e16 : ({ s₁₅ with heap := s₁₆.heap, toks := s₁₆.toks } : Shared) = s₁₆ := by
    obtain ⟨a1, a2, a3, a4, a5⟩ := s₁₆
    simp only at q1 q2 q3
    rw [q1, q2, q3]
  rw [e16] at X₁₆
  repeat (walk_at "m1")
  refine h t' od S' s₁₆ (X₁₆.less fun p hp => ?_) (hTP.sub fun p hp => List.mem_append_left _ hp) q5
  rcases List.mem_append.mp hp with hp | hp
  · exact List.mem_append_left _ hp
  · exact List.mem_append_right _ (.tail _ (.tail _ (.tail _ (.tail _ (List.mem_append_right _ (.tail _ (.tail _ (.tail _ (.tail _ (List.mem_append_right _ (.tail _ (.tail _ hp)))))))))))) 
end
end

section
section
variable {w : World} {A : Around} {E : Value → Shared → Prop} {s₀ s s' b : Shared} {env : Env} {ow : Ow} {m cm : Str → Option Value} {S : List (Addr × Obj)} {v : Value} {dd : Nat}

/-- tags = xdata.get('APP') -/
theorem law_s23 {x dx d t : Addr} {tk : Tok} {od : Obj} {Q : Flow → Shared → Prop} (I : EnvIs env lawN) (hA : AO (dd + 60) A) (X : Fx w s₀ env ⟨.of true, xdL w x dx d tk od⟩ m cm S s) (hsys : (d == sysModules) = false)
    (hm1 : m "xdata" = some (.ref x)) (hM : s.heap.MapOf (strKind P0 w) d (fun y => if y = "APP" then some (.ref t) else none))
    (h : ∀ S' s', Fx w s₀ env ⟨.of true, []⟩ (fun y => if y = "tags" then some (.ref t) else m y) cm (S' ++ S) s' → Q .next s') :
    wpAny (model P0 w) A (exec (lawS 23) env) Q (fun _ _ => False) s := by
  show wpAny _ _ (exec (Stmt.Assign [Expr.Name _ _] _ _) _) _ _ _
  walk_at "m1"
  refine MethodCall_ ?_ (by rfl)
  walk_at "m1"
  have f1 := X.dd _ (.head _)
  have f2 := X.dd _ (.tail _ (.head _))
  have f3 := X.dd _ (.tail _ (.tail _ (.head _)))
  refine method_fn X.ok.K (⟨f2.1, rfl, rfl, f3.1⟩ : InstAt _ x (instObj 494 dx) 494 (some (dict1 w "data" tk (.ref d)))) (by kernel_rfl) (by kernel_rfl) (f := 449) (by kernel_rfl) (by kernel_rfl) (by kernel_rfl) ?_
  refine wpAny_mono (Q := fun v s' => ∃ S', v = .ref t ∧ Fx w s₀ env ⟨.of true, xdL w x dx d tk od⟩ m cm (S' ++ S) s') ?_ (fun v s₁ h₁ => ?_) fun _ _ z => z
  · refine callWith_K X.ok.K (by kernel_rfl) ?_
    refine spliced_more ?_
    refine wpAny_Constant_str ?_
    refine spliced_none ?_
    refine ⟨X.ok.K, ?_⟩
    have X₁ := X.tok (s.toks + 1)
    show wpAny _ _ (call (.ref 449) [.ref x, .str (Str.ofString "APP") s.toks]) _ _ _
    have g1 := X₁.dd _ (.head _)
    have g2 := X₁.dd _ (.tail _ (.head _))
    have g3 := X₁.dd _ (.tail _ (.tail _ (.head _)))
    refine wpAny_mono (get_spec (dd := dd) (v := .ref t) X₁.ok (hA.le (by omega)) ⟨g2.2.1, g3.2.1, g1.2.1⟩ hsys ⟨g2.1, g3.1, g1.1⟩ hM (if_pos rfl)) (fun v s₂ h₂ => ?_) fun _ _ z => z
    obtain ⟨S₂, rfl, X₂⟩ := X₁.call h₂
    exact ⟨S₂, rfl, X₂⟩
  · obtain ⟨S', rfl, X₁⟩ := h₁
    have X₂ := X₁.dropD (D' := []) (fun p hp => nomatch hp)
    repeat (walk_at "m1")
    rename_i s₃ X₃
    exact h S' s₃ X₃

/-- begin, behind = find_begin_and_end_of_encoded_xdata_tags('A', tags) -/
theorem law_s24 {t : Addr} {ps : List (Int × Str)} {i0 j : Nat} {Q : Flow → Shared → Prop} (I : EnvIs env lawN) (hA : AO (dd + 40) A) (hd : dd + 20 ≤ 122) (X : Fx w s₀ env ⟨.of true, []⟩ m cm S s)
    (hm1 : m "tags" = some (.ref t)) (ht : TP S t ps)
    (hj : ps[j]? = some (1000, Str.ofString "A" ++ Str.ofString "_END")) (h0 : ps[i0]? = some (1000, Str.ofString "A" ++ Str.ofString "_BEGIN")) (h0j : i0 < j) (hE : ∀ i p, i < j → ps[i]? = some p → p.1 = 1000 → p.2 ≠ Str.ofString "A" ++ Str.ofString "_END") (hB : ∀ i p, i0 < i → ps[i]? = some p → p.1 = 1000 → p.2 ≠ Str.ofString "A" ++ Str.ofString "_BEGIN")
    (h : ∀ t1 t2 S' s', Fx w s₀ env ⟨.of true, []⟩ (fun y => if y = "behind" then some (.int ((j : Int) + 1) t2) else if y = "begin" then some (.int i0 t1) else m y) cm (S' ++ S) s' → Q .next s') :
    wpAny (model P0 w) A (exec (lawS 24) env) Q (fun _ _ => False) s := by
  show wpAny _ _ (exec (Stmt.Assign [Expr.Tuple _ _ _] _ _) _) _ _ _
  refine Assign_Tuple ?_
  iterate 2 (walk_at "m1")
  refine callWith_K X.ok.K (by kernel_rfl) ?_
  repeat (walk_at "m1")
  rename_i tn s₁ X₁
  refine ⟨X₁.ok.K, ?_⟩
  show wpAny _ _ (call (.ref 375) [.str (Str.ofString "A") tn, .ref t]) _ _ _
  refine wpAny_mono (fb_spec (dd := dd) X₁.ok X₁.has ht (hA.le (by omega)) hd (by decide) hj h0 h0j hE hB) (fun v s₂ h₂ => ?_) fun _ _ z => z
  obtain ⟨S', ⟨tu, t1, t2, rfl, htu⟩, X₂⟩ := X₁.call h₂
  refine asg_pair I (by rfl) (by rfl) hA.h X₂ (X₂.has _ (List.mem_append_left _ htu)).1 fun s₃ X₃ _ _ => ?_
  exact h t1 t2 S' s₃ X₃

/-- start, stop = find_begin_and_end_of_encoded_xdata_tags('B', tags) -/
theorem law_s25 {t : Addr} {ps : List (Int × Str)} {i0 j : Nat} {Q : Flow → Shared → Prop} (I : EnvIs env lawN) (hA : AO (dd + 40) A) (hd : dd + 20 ≤ 122) (X : Fx w s₀ env ⟨.of true, []⟩ m cm S s)
    (hm1 : m "tags" = some (.ref t)) (ht : TP S t ps)
    (hj : ps[j]? = some (1000, Str.ofString "B" ++ Str.ofString "_END")) (h0 : ps[i0]? = some (1000, Str.ofString "B" ++ Str.ofString "_BEGIN")) (h0j : i0 < j) (hE : ∀ i p, i < j → ps[i]? = some p → p.1 = 1000 → p.2 ≠ Str.ofString "B" ++ Str.ofString "_END") (hB : ∀ i p, i0 < i → ps[i]? = some p → p.1 = 1000 → p.2 ≠ Str.ofString "B" ++ Str.ofString "_BEGIN")
    (h : ∀ t1 t2 S' s', Fx w s₀ env ⟨.of true, []⟩ (fun y => if y = "stop" then some (.int ((j : Int) + 1) t2) else if y = "start" then some (.int i0 t1) else m y) cm (S' ++ S) s' → Q .next s') :
    wpAny (model P0 w) A (exec (lawS 25) env) Q (fun _ _ => False) s := by
  show wpAny _ _ (exec (Stmt.Assign [Expr.Tuple _ _ _] _ _) _) _ _ _
  refine Assign_Tuple ?_
  iterate 2 (walk_at "m1")
  refine callWith_K X.ok.K (by kernel_rfl) ?_
  repeat (walk_at "m1")
  rename_i tn s₁ X₁
  refine ⟨X₁.ok.K, ?_⟩
  show wpAny _ _ (call (.ref 375) [.str (Str.ofString "B") tn, .ref t]) _ _ _
  refine wpAny_mono (fb_spec (dd := dd) X₁.ok X₁.has ht (hA.le (by omega)) hd (by decide) hj h0 h0j hE hB) (fun v s₂ h₂ => ?_) fun _ _ z => z
  obtain ⟨S', ⟨tu, t1, t2, rfl, htu⟩, X₂⟩ := X₁.call h₂
  refine asg_pair I (by rfl) (by rfl) hA.h X₂ (X₂.has _ (List.mem_append_left _ htu)).1 fun s₃ X₃ _ _ => ?_
  exact h t1 t2 S' s₃ X₃
end
end

section
section
variable {w : World} {A : Around} {E : Value → Shared → Prop} {s₀ s s' b : Shared} {env : Env} {ow : Ow} {m cm : Str → Option Value} {S : List (Addr × Obj)} {v : Value} {dd : Nat}

theorem o_lenTP {t : Addr} {ps : List (Int × Str)} {Q : Value → Shared → Prop} (X : Fx w s₀ env ow m cm S s) (ht : TP S t ps) (hz : ps.length ≤ 1000000) (h : ∀ t' s', Fx w s₀ env ow m cm S s' → Q (.int (ps.length : Int) t') s') : wpAny (model P0 w) A (call (.builtin "len") [.ref t]) Q E s := by
  obtain ⟨ol, items, k, a1, a2, a3, a4⟩ := ht
  refine len_T X.ok (X.has _ a1).1 a2 (by omega) fun t' => ?_
  rw [a3]
  exact h t' _ (X.tok _)

/-- if begin != 5 + len(other) or behind != begin + len(cut) + 2 or start != 2 or stop != 4 + len(other): return False -/
theorem law_s26 {to tg : Addr} {os cs : List (Int × Str)} {b0 b1 b2 b3 : Int} {u0 u1 u2 u3 : Tok} {Q : Flow → Shared → Prop} (I : EnvIs env lawN) (X : Fx w s₀ env ⟨.of true, []⟩ m cm S s)
    (hm1 : m "begin" = some (.int b0 u0)) (hm2 : m "behind" = some (.int b1 u1)) (hm3 : m "start" = some (.int b2 u2)) (hm4 : m "stop" = some (.int b3 u3)) (hm5 : m "other" = some (.ref to)) (hm6 : m "cut" = some (.ref tg)) (hO : TP S to os) (hC : TP S tg cs)
    (ho : os.length ≤ 1000) (hc : cs.length ≤ 100000) (e0 : b0 = 5 + (os.length : Int)) (e1 : b1 = b0 + (cs.length : Int) + 2) (e2 : b2 = 2) (e3 : b3 = 4 + (os.length : Int))
    (h : ∀ s', Fx w s₀ env ⟨.of true, []⟩ m cm S s' → Q .next s') :
    wpAny (model P0 w) A (exec (lawS 26) env) Q (fun _ _ => False) s := by
  show wpAny _ _ (exec (Stmt.If _ _ _ _) _) _ _ _
  refine wpAny_If (isTrue_or ?_)
  repeat (walk_at "m1")
  rename_i t₁ s₁ X₁
  show wpAny _ _ (call (.builtin "len") [.ref to]) _ _ _
  refine o_lenTP X₁ hO (by omega) fun t₂ s₂ X₂ => ?_
  repeat (walk_at "m1")
  rename_i t₃ s₃ X₃
  rw [if_neg (by rw [e0]; simp)]
  refine isTrue_or ?_
  repeat (walk_at "m1")
  show wpAny _ _ (call (.builtin "len") [.ref tg]) _ _ _
  refine o_lenTP X₃ hC (by omega) fun t₄ s₄ X₄ => ?_
  repeat (walk_at "m1")
  rename_i t₅ s₅ X₅ t₆ s₆ X₆ t₇ s₇ X₇
  rw [if_neg (by rw [e1]; simp)]
  refine isTrue_or ?_
  repeat (walk_at "m1")
  rename_i t₈ s₈ X₈
  rw [if_neg (by rw [e2]; decide)]
  refine isTrue_or ?_
  repeat (walk_at "m1")
  rename_i t₉ s₉ X₉
  show wpAny _ _ (call (.builtin "len") [.ref to]) _ _ _
  refine o_lenTP X₉ hO (by omega) fun t₂ s₂ X₂ => ?_
  repeat (walk_at "m1")
  rename_i t₁₀ s₁₀ X₁₀
  rw [if_neg (by rw [e3]; simp)]
  refine isTrue_or_nil ?_
  rw [if_neg (by decide)]
  repeat (walk_at "m1")
  exact h _ X₁₀
end
end

section
theorem tp_slice {S : List (Addr × Obj)} {items : Array Value} {ps : List (Int × Str)} (hsz : items.size = ps.length) (hit : ∀ (j : Nat) (r : Value), items[j]? = some r → ∃ p tc ty, (ps[j]? : Option (Int × Str)) = some p ∧ IsTag S r (.int p.1 tc) (.str p.2 ty)) {x y : Int} (hx : 0 ≤ x) (hy : 0 ≤ y) :
    (slicePick items (some x) (some y) none).size = ((ps.take y.toNat).drop x.toNat).length ∧ ∀ (j : Nat) (r : Value), (slicePick items (some x) (some y) none)[j]? = some r → ∃ p tc ty, (((ps.take y.toNat).drop x.toNat)[j]? : Option (Int × Str)) = some p ∧ IsTag S r (.int p.1 tc) (.str p.2 ty) := by
  have h := pick_nn items x y hx hy
  generalize slicePick items (some x) (some y) none = pk at h ⊢
  refine ⟨?_, fun j r e => ?_⟩
  · have := congrArg List.length h
    rw [Array.length_toList, List.length_drop, List.length_take, Array.length_toList, hsz] at this
    rw [this, List.length_drop, List.length_take]
  · rw [← Array.getElem?_toList, h, List.getElem?_drop, List.getElem?_take] at e
    split at e
    · rename_i hlt
      rw [Array.getElem?_toList] at e
      obtain ⟨p, tc, ty, hp, hr⟩ := hit _ r e
      exact ⟨p, tc, ty, by rw [List.getElem?_drop, List.getElem?_take, if_pos hlt]; exact hp, hr⟩
    · cases e
section
variable {w : World} {A : Around} {E : Value → Shared → Prop} {s₀ s s' b : Shared} {env : Env} {ow : Ow} {m cm : Str → Option Value} {S : List (Addr × Obj)} {v : Value} {dd : Nat}

/-- tags[lo + 1:hi - 1] -/
theorem cut_eval {t : Addr} {ps : List (Int × Str)} {nl nh : Str} {b0 b1 : Int} {u0 u1 : Tok} {Q : Value → Shared → Prop} {p1 p2 p3 p4 p5 p6 p7 p8 p9 : Pos} {k1 k2 : Nat} (I : EnvIs env lawN) (X : Fx w s₀ env ow m cm S s)
    (hm1 : m "tags" = some (.ref t)) (hl1 : lawN.lookup nl = some .local) (hl2 : lawN.lookup nh = some .local) (hd1 : (nl == ("__debug__" : Str)) = false) (hd2 : (nh == ("__debug__" : Str)) = false) (hm2 : m nl = some (.int b0 u0)) (hm3 : m nh = some (.int b1 u1)) (ht : TP S t ps) (hn : ps.length ≤ 1000000) (h0 : 0 ≤ b0 + 1) (h1 : 0 ≤ b1 - 1)
    (h : ∀ D o S' s', Fx w s₀ env ow m cm (S' ++ S) s' → S' = [(D, o)] → TP (S' ++ S) D ((ps.take (b1 - 1).toNat).drop (b0 + 1).toNat) → o.cls = .type "list" → Q (.ref D) s') :
    wpAny (model P0 w) A (eval (.Subscript (.Name "tags" p1) (.Slice (some (.BinOp (.Name nl p2) .Add (.Constant (.int 1) k1 p3) p4)) (some (.BinOp (.Name nh p5) .Sub (.Constant (.int 1) k2 p6) p7)) none p8) p9) env) Q E s := by
  obtain ⟨ol, items, k, a1, a2, a3, a4⟩ := ht
  refine subslice_F (s₀ := s₀) (ow := ow) (cm := cm) ?_
  walk_at "m1"
  rw [evalPart_some]
  refine wpAny_BinOp ?_
  refine nm_local I X hl1 hd1 hm2 ?_
  walk_at "m1"
  walk_at "m1"
  rw [evalPart_some]
  rename_i t₁ s₁ X₁ t₂ s₂ X₂
  refine wpAny_BinOp ?_
  refine nm_local I X₂ hl2 hd2 hm3 ?_
  walk_at "m1"
  walk_at "m1"
  rename_i t₃ s₃ X₃ t₄ s₄ X₄
  refine ⟨S, m, t, ol, items, k, some (b0 + 1), some (b1 - 1), rfl, X₄, a1, a2, by omega, .int _ _, .int _ _, fun D s₅ X₅ => ?_⟩
  obtain ⟨c1, c2⟩ := tp_slice a3 a4 h0 h1
  exact h D _ [_] s₅ X₅ rfl ⟨_, _, _, .head _, ⟨.inr rfl, rfl⟩, c1, fun j r e => let ⟨p, tc, ty, x, y⟩ := c2 j r e; ⟨p, tc, ty, x, y.sub fun q hq => .tail _ hq⟩⟩ rfl

/-- if _law_pairs(Tags(tags[begin + 1:behind - 1])) != [(1000, part[1]) for part in parts]: return False -/
theorem law_s27 {t Dp : Addr} {ps prts : List (Int × Str)} {b0 b1 : Int} {u0 u1 : Tok} {Q : Flow → Shared → Prop} (I : EnvIs env lawN) (hA : AO (dd + 40) A) (hdd : dd ≤ 60) (X : Fx w s₀ env ⟨.of true, []⟩ m cm S s)
    (hm1 : m "tags" = some (.ref t)) (hm2 : m "begin" = some (.int b0 u0)) (hm3 : m "behind" = some (.int b1 u1)) (hm4 : m "parts" = some (.ref Dp)) (ht : TP S t ps) (hP : PL S Dp prts) (hn : ps.length ≤ 100000) (hn2 : prts.length ≤ 100000) (h0 : 0 ≤ b0 + 1) (h1 : 0 ≤ b1 - 1)
    (hpk : (ps.take (b1 - 1).toNat).drop (b0 + 1).toNat = prts.map fun p => (1000, p.2)) (hok : ∀ p ∈ prts, PyData.strOk p.2 = true)
    (h : ∀ S' s', Fx w s₀ env ⟨.of true, []⟩ m cm (S' ++ S) s' → Q .next s') :
    wpAny (model P0 w) A (exec (lawS 27) env) Q (fun _ _ => False) s := by
  show wpAny _ _ (exec (Stmt.If _ _ _ _) _) _ _ _
  iterate 4 (walk_at "m1")
  refine callWith_K X.ok.K (by kernel_rfl) ?_
  refine spliced_more ?_
  iterate 2 (walk_at "m1")
  refine callWith_K X.ok.K (by kernel_rfl) ?_
  refine spliced_more ?_
  refine cut_eval I X hm1 (by rfl) (by rfl) (by decide) (by decide) hm2 hm3 ht (by omega) h0 h1 fun D o S₁ s₁ X₁ hS₁ hT₁ hc₁ => ?_
  rw [hpk] at hT₁
  refine spliced_none ⟨X₁.ok.K, ?_⟩
  show wpAny _ _ (call (.ref 335) [.ref D]) _ _ _
  obtain ⟨ol, items, k, a1, a2, a3, a4⟩ := hT₁
  have hD := X₁.has _ a1
  refine wpAny_mono (Tags_T (d := dd) X₁.ok hD.1 a2 hD.2.1 (by rw [a3, List.length_map]; omega) (hA.le (by omega)) (by omega)) (fun v s₂ h₂ => ?_) fun _ _ z => z
  obtain ⟨S₂, ⟨t', dx, k', rfl, rfl⟩, X₂⟩ := X₁.call h₂
  have hT₂ : TP ([(t', listInst 335 dx items k')] ++ (S₁ ++ S)) t' (prts.map fun p => (1000, p.2)) := ⟨_, items, k', .head _, ⟨.inl rfl, rfl⟩, a3, fun j r e => let ⟨p, tc, ty, x, y⟩ := a4 j r e; ⟨p, tc, ty, x, y.sub fun q hq => .tail _ hq⟩⟩
  refine spliced_none ⟨X₂.ok.K, ?_⟩
  show wpAny _ _ (call (.ref 519) [.ref t']) _ _ _
  refine wpAny_mono (pairs_spec (dd := dd) X₂.ok X₂.has hT₂ (hA.le (by omega)) (by omega) (by rw [List.length_map]; omega)) (fun v s₃ h₃ => ?_) fun _ _ z => z
  obtain ⟨S₃, ⟨l, rfl, hl'⟩, X₃⟩ := X₂.call h₃
  refine lc_eval I (closureFor_none (by decide)) (by rfl) (by decide) (by decide) (by rfl) (by intro _; rfl) ?_
  walk_at "m1"
  obtain ⟨ps2, kp, b1', b2', b3'⟩ := hP
  have up : ∀ p ∈ S, p ∈ S₃ ++ ([(t', listInst 335 dx items k')] ++ (S₁ ++ S)) := fun p hp => List.mem_append_right _ (List.mem_append_right _ (List.mem_append_right _ hp))
  have hlt := X₃.has _ (up _ b1')
  refine iter_T0 X₃.ok hlt.1 ⟨.inr rfl, rfl⟩ ?_
  refine ⟨s₃, _, _, _, dd, _, pairA (prts.map fun p => (1000, p.2)), fun _ => none, S, rfl, (Bx.self X₃.ok).grow (t := s₃.toks) (fun a o e => Heap.get?_push_of_some _ e), Ready0.list X₃.ok hlt.1 rfl hlt.2.1 (by omega), by omega, hA.le (by omega), (fun n c e => by cases e), (fun p hp => by cases hp), .nil, (X₃.less up).has, pairA_cls, ?_, ?_⟩
  · intro C i v T s m₂ b' hR hmx Y
    obtain ⟨rfl, hv⟩ := hR
    obtain ⟨a, tc, ty, kk, p, hp, rfl, ha⟩ := b3' i v hv
    have Ic := relabel_fx Y I (by rfl)
    clear I X X₁ X₂ X₃
    generalize compEnvC _ _ C env = cenv at Y Ic ⊢
    repeat (walk_at "m1")
    rename_i t₄ s₄ Y₄ t₅ s₅ Y₅
    refine tail_any (ops := [.ref a, .int 1 t₅]) ⟨_, (Y₅.has _ ha).1, rfl⟩ PySem.F.slot_tuple_getitem.lookup (getItem_tuple (items := #[.int p.1 tc, .str p.2 ty]) (j := 1) ⟨_, (Y₅.has _ ha).1, rfl, kk, rfl⟩ (by decide) (by decide) (by rfl) (by rfl) ?_) (by rfl)
    repeat (walk_at "m1")
    rename_i a₇ s₇ Y₇
    exact ⟨_, _, _, Y₇, fun p hp => List.mem_singleton.mp hp ▸ .head _, a₇, _, ty, 0, (1000, p.2), by rw [List.getElem?_map, hp]; rfl, rfl, rfl⟩
  · intro s₆ D₆ k₆ acc F B₆ hF hacc hD₆
    rw [b2', ← List.length_map (as := prts) (f := fun p => ((1000 : Int), p.2))] at hacc
    have X₆ := (X₃.step B₆.ok B₆.kt B₆.os B₆.ge).more hF
    have hok' : ∀ p ∈ prts.map (fun p => ((1000 : Int), p.2)), PyData.strOk p.2 = true := fun p hp => by
      obtain ⟨q, hq, rfl⟩ := List.mem_map.mp hp
      exact hok q hq
    refine nev_dat (dd := dd) X₆.has (hl'.sub fun p hp => List.mem_append_right _ (List.mem_append_left _ hp)).dat ((PL.of hacc).sub fun p hp => List.mem_append_left _ hp).dat (kq_pairs hok') (kq_pairs hok') (hA.le (by omega)) fun bb hb => ?_
    rw [hb.mpr rfl]
    refine wpAny_truthy_bool ?_
    rw [if_neg (by decide)]
    repeat (walk_at "m1")
    exact h [] s₆ (X₆.less fun p hp => List.mem_append_right _ (up p hp))
end
end

section
theorem TP.tt {S : List (Addr × Obj)} {t : Addr} {ps : List (Int × Str)} (h : TP S t ps) : ∃ texts : List (Value × Str), TT S t texts ∧ texts.map (·.2) = ps.map (·.2) := by
  obtain ⟨ol, items, k, a1, a2, a3, a4⟩ := h
  obtain ⟨l, hl, hP⟩ := choose_list (P := fun (j : Nat) (q : Tok × Tok) => ∀ r, items[j]? = some r → ∃ p, (ps[j]? : Option (Int × Str)) = some p ∧ IsTag S r (.int p.1 q.1) (.str p.2 q.2)) ps.length (fun i hi => by
    obtain ⟨p, tc, ty, hp, hr⟩ := a4 i items[i] (Array.getElem?_eq_getElem (by omega))
    refine ⟨(tc, ty), fun r e => ?_⟩
    rw [Array.getElem?_eq_getElem (by omega)] at e
    cases e
    exact ⟨p, hp, hr⟩)
  refine ⟨(ps.zip l).map fun q => (.int q.1.1 q.2.1, q.1.2), ⟨l.map (·.2), by simp [hl], ol, items, k, a1, a2, by simp [hl, a3], fun j r e => ?_⟩, ?_⟩
  · have hj : j < ps.length := by
      rcases Nat.lt_or_ge j ps.length with q | q
      · exact q
      · rw [Array.getElem?_eq_none (by omega)] at e; cases e
    have hlj : l[j]? = some l[j] := List.getElem?_eq_getElem (by omega)
    obtain ⟨p, hp, hr⟩ := hP j _ hlj r e
    refine ⟨_, _, hr, ?_⟩
    rw [List.getElem?_map]
    have hz : (List.zip ((ps.zip l).map fun q => ((Value.int q.1.1 q.2.1, q.1.2) : Value × Str)) (l.map (·.2)))[j]? = some ((.int p.1 l[j].1, p.2), l[j].2) := by
      rw [List.getElem?_zip_eq_some]
      refine ⟨?_, by rw [List.getElem?_map, hlj]; rfl⟩
      rw [List.getElem?_map, (List.getElem?_zip_eq_some (z := (p, l[j]))).mpr ⟨hp, hlj⟩]; rfl
    rw [hz]; rfl
  · rw [List.map_map]
    apply List.ext_getElem?
    intro j
    rw [List.getElem?_map, List.getElem?_map]
    cases hj : ps[j]? with
    | none =>
      have : (ps.zip l)[j]? = none := List.getElem?_eq_none (by rw [List.length_zip, hl, Nat.min_self]; exact List.getElem?_eq_none_iff.mp hj)
      rw [this]; rfl
    | some p =>
      have hlt := (List.getElem?_eq_some_iff.mp hj).1
      have hlj : l[j]? = some l[j] := List.getElem?_eq_getElem (by omega)
      rw [(List.getElem?_zip_eq_some (z := (p, l[j]))).mpr ⟨hj, hlj⟩]; rfl
section
variable {w : World} {A : Around} {E : Value → Shared → Prop} {s₀ s s' b : Shared} {env : Env} {ow : Ow} {m cm : Str → Option Value} {S : List (Addr × Obj)} {v : Value} {dd : Nat}

/-- return multi_tags_to_text(tags[begin + 1:behind - 1], end) == back and multi_tags_to_text(tags[start + 1:stop - 1], end) == 'other' -/
theorem law_s28 {t : Addr} {ps : List (Int × Str)} {b0 b1 b2 b3 : Int} {u0 u1 u2 u3 te tb : Tok} {e bk : Str} {xs ys : List Str} {Q : Flow → Shared → Prop} (I : EnvIs env lawN) (hA : AO (dd + 40) A) (hdd : dd ≤ 60) (X : Fx w s₀ env ⟨.of true, []⟩ m cm S s)
    (hm1 : m "tags" = some (.ref t)) (hm2 : m "begin" = some (.int b0 u0)) (hm3 : m "behind" = some (.int b1 u1)) (hm4 : m "start" = some (.int b2 u2)) (hm5 : m "stop" = some (.int b3 u3)) (hm6 : m "end" = some (.str e te)) (hm7 : m "back" = some (.str bk tb)) (ht : TP S t ps) (hn : ps.length ≤ 100000)
    (h0 : 0 ≤ b0 + 1) (h1 : 0 ≤ b1 - 1) (h2 : 0 ≤ b2 + 1) (h3 : 0 ≤ b3 - 1) (hte0 : te ≠ 0) (hte : te < s.toks) (hle : (e == (Str.ofString "\n")) = false)
    (hx : ((ps.take (b1 - 1).toNat).drop (b0 + 1).toNat).map (·.2) = xs) (hy : ((ps.take (b3 - 1).toNat).drop (b2 + 1).toNat).map (·.2) = ys) (hxs : (xs.map (·.length)).sum ≤ 100000) (hys : (ys.map (·.length)).sum ≤ 100000)
    (hbk : Txt.replace (Txt.join (Str.ofString "") xs) e (Str.ofString "\n") = bk) (hot : Txt.replace (Txt.join (Str.ofString "") ys) e (Str.ofString "\n") = Str.ofString "other")
    (h : ∀ S' s', Fx w s₀ env ⟨.of true, []⟩ m cm (S' ++ S) s' → Q (.ret (.bool true)) s') :
    wpAny (model P0 w) A (exec (lawS 28) env) Q (fun _ _ => False) s := by
  show wpAny _ _ (exec (Stmt.Return (some _) _) _) _ _ _
  refine wpAny_Return_some ?_
  refine BoolOp_and ?_
  refine wpAny_with_toks (Nat.succ_le_of_lt hte) ?_
  iterate 3 (walk_at "m1")
  refine callWith_K X.ok.K (by kernel_rfl) ?_
  refine wpAny_with_toks (Nat.succ_le_of_lt hte) ?_
  refine spliced_more ?_
  refine cut_eval I X hm1 (by rfl) (by rfl) (by decide) (by decide) hm2 hm3 ht (by omega) h0 h1 fun D o S₁ s₁ X₁ hS₁ hT₁ hc₁ => ?_
  repeat (walk_at "m1")
  intro htk
  refine ⟨X₁.ok.K, ?_⟩
  show wpAny _ _ (call (.ref 355) [.ref D, .str e te]) _ _ _
  have hln := ht
  obtain ⟨tx, hTT, htx⟩ := hT₁.tt
  rw [hx] at htx
  have hxl : tx.length ≤ 100000 := by
    have := congrArg List.length (htx.trans hx.symm)
    rw [List.length_map, List.length_map, List.length_drop, List.length_take] at this
    omega
  refine wpAny_mono (mtt_spec (d := dd) X₁.ok X₁.has (hA.le (by omega)) (by omega) hTT hxl (by rw [htx]; exact hxs) hte0 (Nat.lt_of_succ_le htk) hle) (fun v s₂ h₂ => ?_) fun _ _ z => z
  obtain ⟨S₂, ⟨t', rfl⟩, X₂⟩ := X₁.call h₂
  rw [htx, hbk]
  repeat (walk_at "m1")
  intro htk2
  refine wpAny_truthy_bool ?_
  rw [if_pos (by simp)]
  refine BoolOp_one ?_
  iterate 3 (walk_at "m1")
  refine callWith_K X₂.ok.K (by kernel_rfl) ?_
  refine wpAny_with_toks htk2 ?_
  refine spliced_more ?_
  refine cut_eval I X₂ hm1 (by rfl) (by rfl) (by decide) (by decide) hm4 hm5 (ht.sub fun p hp => List.mem_append_right _ (List.mem_append_right _ hp)) (by omega) h2 h3 fun D2 o2 S₃ s₃ X₃ hS₃ hT₃ hc₃ => ?_
  repeat (walk_at "m1")
  intro htk3
  refine ⟨X₃.ok.K, ?_⟩
  show wpAny _ _ (call (.ref 355) [.ref D2, .str e te]) _ _ _
  obtain ⟨ty, hTT3, hty⟩ := hT₃.tt
  rw [hy] at hty
  have hyl : ty.length ≤ 100000 := by
    have := congrArg List.length (hty.trans hy.symm)
    rw [List.length_map, List.length_map, List.length_drop, List.length_take] at this
    omega
  refine wpAny_mono (mtt_spec (d := dd) X₃.ok X₃.has (hA.le (by omega)) (by omega) hTT3 hyl (by rw [hty]; exact hys) hte0 (Nat.lt_of_succ_le htk3) hle) (fun v s₄ h₄ => ?_) fun _ _ z => z
  obtain ⟨S₄, ⟨t'', rfl⟩, X₄⟩ := X₃.call h₄
  rw [hty, hot]
  repeat (walk_at "m1")
  rename_i t₅ s₅ X₅
  rw [show (Str.ofString "other" == Str.ofString "other") = true from beq_self_eq_true _]
  exact h (S₄ ++ S₃ ++ S₂ ++ S₁) s₅ (by simpa only [List.append_assoc] using X₅)
end
end

section
--P2
theorem str_ext {x y : Str} (h : x.cps.toList = y.cps.toList) : x = y := by
  cases x; cases y; simp only [Str.mk.injEq]; exact Array.ext' h
theorem join_flat (ps : List Str) : (Txt.join (Str.ofString "") ps).cps.toList = (ps.map (·.cps.toList)).flatten := by
  show (Builtin.Str.glued _ _).cps.toList = _
  rw [StrLaws.glued_eq_join]
  have e : (Str.ofString "") = (⟨#[]⟩ : Str) := rfl
  rw [e]
  induction ps with
  | nil => rfl
  | cons p ps ih =>
    cases ps with
    | nil => show p.cps.toList = _; simp
    | cons q r =>
      rw [join_cons2 _ _ _ (List.cons_ne_nil _ _), ih]
      simp
theorem join_len (ps : List Str) : (Txt.join (Str.ofString "") ps).length = (ps.map (·.length)).sum := by
  have h := congrArg List.length (join_flat ps)
  rw [List.length_flatten, List.map_map] at h
  rw [Array.length_toList] at h
  exact h
theorem chunk_list {said : Str} {sz i : Nat} (h : i * sz ≤ said.length) : (chunk said sz i).cps.toList = (said.cps.toList.drop (i * sz)).take sz := by
  unfold chunk
  rw [slice_clip said (Int.natCast_nonneg _) (Int.ofNat_le.mpr h) (Int.ofNat_le.mpr (Nat.mul_le_mul_right _ (Nat.le_succ i)))]
  have e : ((((i + 1) * sz : Nat) : Int) - ((i * sz : Nat) : Int)).toNat = sz := by
    rw [Nat.add_mul, Nat.one_mul, Int.natCast_add]; omega
  rw [e, Int.toNat_natCast]
theorem flat_chunks (l : List Nat) (sz : Nat) : ∀ n, ((List.range n).map fun i => (l.drop (i * sz)).take sz).flatten = l.take (n * sz)
  | 0 => by simp
  | n + 1 => by
    rw [List.range_succ, List.map_append, List.flatten_append, flat_chunks l sz n, Nat.add_mul, Nat.one_mul, List.take_add]
    simp
theorem chunks_len (said : Str) (sz : Nat) (cv : Value) : (chunks said sz cv).length = chunkN said.length sz := by simp [chunks]
theorem chunks_all {said : Str} {sz : Nat} (h : 0 < sz) : said.length ≤ chunkN said.length sz * sz := by
  rcases Nat.lt_or_ge (chunkN said.length sz * sz) said.length with q | q
  · exact absurd ((chunk_lt h).mpr q) (Nat.lt_irrefl _)
  · exact q
def texts (said : Str) (sz : Nat) : List Str := (List.range (chunkN said.length sz)).map (chunk said sz)
theorem chunks_texts (said : Str) (sz : Nat) (cv : Value) : (chunks said sz cv).map (·.2) = texts said sz := by
  unfold chunks texts; rw [List.map_map]; rfl
theorem join_texts {said : Str} {sz : Nat} (h : 0 < sz) : Txt.join (Str.ofString "") (texts said sz) = said := by
  apply str_ext
  rw [join_flat]
  unfold texts
  rw [List.map_map]
  have e : (List.range (chunkN said.length sz)).map ((fun x : Str => x.cps.toList) ∘ chunk said sz) = (List.range (chunkN said.length sz)).map fun i => (said.cps.toList.drop (i * sz)).take sz := by
    refine List.map_congr_left fun i hi => ?_
    have hi' := List.mem_range.mp hi
    exact chunk_list (Nat.le_of_lt ((chunk_lt h).mp hi'))
  rw [e, flat_chunks, List.take_of_length_le]
  rw [Array.length_toList]
  exact chunks_all h
/-- signs: none is '_', all lie in their range -/
def Fine (x : Str) : Prop := ∀ c ∈ x.cps.toList, c < 1114112 ∧ c ≠ 95
theorem swapF_mem {old new : List Nat} : ∀ (n : Nat) (l : List Nat) (c : Nat), c ∈ swapF old new n l → c ∈ new ∨ c ∈ l
  | 0, _, _, h => by cases h
  | _ + 1, [], _, h => by cases h
  | n + 1, d :: t, c, h => by
    unfold swapF at h
    split at h
    · rcases List.mem_append.mp h with h | h
      · exact .inl h
      · exact (swapF_mem n _ c h).imp id fun q => List.mem_of_mem_drop q
    · rcases List.mem_cons.mp h with rfl | h
      · exact .inr (.head _)
      · exact (swapF_mem n t c h).imp id fun q => .tail _ q
theorem Fine.swap {x old new : Str} (hx : Fine x) (hn : Fine new) : Fine (swapS x old new) := fun c h => by
  have h' : c ∈ swapF old.cps.toList new.cps.toList x.cps.toList.length x.cps.toList := by simpa [swapS, swapL] using h
  exact (swapF_mem _ _ _ h').elim (hn c) (hx c)
theorem Fine.chunk {x : Str} (hx : Fine x) {sz i : Nat} (h : i * sz ≤ x.length) : Fine (chunk x sz i) := fun c hc => by
  rw [chunk_list h] at hc
  exact hx c (List.mem_of_mem_drop (List.mem_of_mem_take hc))
theorem Fine.texts {x : Str} (hx : Fine x) {sz : Nat} (h : 0 < sz) : ∀ y ∈ texts x sz, Fine y := fun y hy => by
  unfold Mine.texts at hy
  obtain ⟨i, hi, rfl⟩ := List.mem_map.mp hy
  exact hx.chunk (Nat.le_of_lt ((chunk_lt h).mp (List.mem_range.mp hi)))
theorem Fine.join {ps : List Str} (h : ∀ p ∈ ps, Fine p) : Fine (Txt.join (Str.ofString "") ps) := fun c hc => by
  rw [join_flat] at hc
  obtain ⟨l, hl, hc⟩ := List.mem_flatten.mp hc
  obtain ⟨p, hp, rfl⟩ := List.mem_map.mp hl
  exact h p hp c hc
theorem Fine.ok {x : Str} (h : Fine x) : PyData.strOk x = true := by
  unfold PyData.strOk
  rw [← Array.all_toList, List.all_eq_true]
  intro c hc
  exact decide_eq_true (h c hc).1
theorem fine_of {x : Str} (h : (x.cps.toList.all fun c => decide (c < 1114112 ∧ c ≠ 95)) = true) : Fine x := fun c hc => by
  have := List.all_eq_true.mp h c hc
  exact of_decide_eq_true this
theorem Fine.ne {x y : Str} (h : Fine x) (hy : 95 ∈ y.cps.toList) : x ≠ y := fun e => by
  rw [← e] at hy; exact (h _ hy).2 rfl
theorem swap_length {x old new : Str} (ho : old.cps.toList ≠ []) : (swapS x old new).length ≤ x.length * (new.length + 1) := by
  have h := swapL_len old.cps.toList new.cps.toList ho _ _ (Nat.le_refl _ : x.cps.toList.length ≤ _)
  have e : (swapS x old new).length = (swapL old.cps.toList new.cps.toList x.cps.toList).length := by simp [swapS, Str.length]
  rw [e]
  simpa [Str.length] using h
--END
end

section
theorem sum_le {α : Type} (f : α → Nat) (k : Nat) : ∀ l : List α, (∀ x ∈ l, f x ≤ k) → (l.map f).sum ≤ k * l.length
  | [], _ => Nat.zero_le _
  | x :: l, h => by
    have h1 := h x (.head _)
    have h2 := sum_le f k l fun y hy => h y (.tail _ hy)
    rw [List.map_cons, List.sum_cons, List.length_cons, Nat.mul_succ]
    omega
theorem menu_fine : ∀ x ∈ ("" : Str) :: piecesL, Fine x ∧ x.length ≤ 2 := by
  have h : (("" : Str) :: piecesL).all (fun x => (x.cps.toList.all fun c => decide (c < 1114112 ∧ c ≠ 95)) && decide (x.length ≤ 2)) = true := by decide +kernel
  intro x hx
  have := List.all_eq_true.mp h x hx
  rw [Bool.and_eq_true] at this
  exact ⟨fine_of this.1, of_decide_eq_true this.2⟩
theorem pieceOf_fine (n : Int) : Fine (pieceOf n) ∧ (pieceOf n).length ≤ 2 := by
  refine menu_fine _ ?_
  unfold pieceOf
  rw [List.getD_eq_getElem?_getD]
  cases h : piecesL[(n.fmod 12).toNat]? with
  | none => exact .head _
  | some x => exact .tail _ (List.mem_of_getElem? h)
theorem bees_fine : Fine bees ∧ bees.length ≤ 300 := ⟨fine_of (by decide +kernel), by decide +kernel⟩
def psOf (head : Int) (N : List Int) : List Str := withB head (((N.take (1 + head.fmod 30).toNat).drop 1).map pieceOf)
theorem psOf_facts (head : Int) (N : List Int) : (psOf head N).length ≤ 31 ∧ (∀ p ∈ psOf head N, Fine p) ∧ ((psOf head N).map (·.length)).sum ≤ 400 := by
  have hf1 : head.fmod 30 < 30 := Int.fmod_lt_of_pos _ (by decide)
  have hl : (((N.take (1 + head.fmod 30).toNat).drop 1).map pieceOf).length ≤ 30 := by
    rw [List.length_map, List.length_drop, List.length_take]; omega
  have hF : ∀ p ∈ ((N.take (1 + head.fmod 30).toNat).drop 1).map pieceOf, Fine p ∧ p.length ≤ 2 := fun p hp => by
    obtain ⟨n, _, rfl⟩ := List.mem_map.mp hp
    exact pieceOf_fine n
  have hs := sum_le (fun x : Str => x.length) 2 _ fun p hp => (hF p hp).2
  unfold psOf withB
  generalize ((N.take (1 + head.fmod 30).toNat).drop 1).map pieceOf = q at hl hF hs ⊢
  by_cases hc : (head.fdiv 30).fmod 3 = 2
  · rw [if_pos hc]
    refine ⟨by rw [List.length_cons]; omega, fun p hp => ?_, ?_⟩
    · rcases List.mem_cons.mp hp with rfl | hp
      · exact bees_fine.1
      · exact (hF p hp).1
    · have := bees_fine.2
      rw [List.map_cons, List.sum_cons]; omega
  · rw [if_neg hc]
    exact ⟨by omega, fun p hp => (hF p hp).1, by omega⟩
theorem ends_facts {i : Nat} {x : Str} (h : endsL[i]? = some x) : x.cps.toList ≠ [] ∧ x.length = 2 ∧ Fine x ∧ ((Str.ofString "\n") == x) = false ∧ (x == (Str.ofString "\n")) = false ∧
    swapS (Str.ofString "other") (Str.ofString "\n") x = Str.ofString "other" ∧ swapS (Str.ofString "other") x (Str.ofString "\n") = Str.ofString "other" := by
  have hm := List.mem_of_getElem? h
  simp only [endsL, List.mem_cons, List.not_mem_nil, or_false] at hm
  rcases hm with rfl | rfl | rfl | rfl <;> exact ⟨by decide, by decide, fine_of (by decide +kernel), by decide, by decide, by decide +kernel, by decide +kernel⟩
theorem size_facts (head : Int) : ∃ sz : Nat, sizeOf' head = (sz : Int) ∧ 0 < sz ∧ sz ≤ 1000 := by
  have h0 : 0 ≤ (head.fdiv 360).fmod 9 := Int.fmod_nonneg_of_pos _ (by decide)
  have h1 : (head.fdiv 360).fmod 9 < 9 := Int.fmod_lt_of_pos _ (by decide)
  have : 1 ≤ sizeOf' head ∧ sizeOf' head ≤ 1000 := by
    unfold sizeOf' size1
    split <;> omega
  exact ⟨(sizeOf' head).toNat, by omega, by omega, by omega⟩
/-- the list of the tags found -/
def pre9 : List (Int × Str) := [(1001, Str.ofString "APP"), (1070, Str.ofString "1"), (1000, Str.ofString "B" ++ Str.ofString "_BEGIN"), (1000, Str.ofString "ot"), (1000, Str.ofString "he"), (1000, Str.ofString "r"), (1000, Str.ofString "B" ++ Str.ofString "_END"), (1000, Str.ofString "gap"), (1000, Str.ofString "A" ++ Str.ofString "_BEGIN")]
def tail2 : List (Int × Str) := [(1000, Str.ofString "A" ++ Str.ofString "_END"), (1070, Str.ofString "2")]
def k1000 (cs : List (Int × Str)) : List (Int × Str) := cs.map fun p => (1000, p.2)
def osL : List (Int × Str) := chunksI (Str.ofString "other") 2 1000
theorem osL_eq : osL = [(1000, Str.ofString "ot"), (1000, Str.ofString "he"), (1000, Str.ofString "r")] := by decide +kernel
theorem tags_eq (cs : List (Int × Str)) : ((1001, Str.ofString "APP") :: allL osL cs : List (Int × Str)) = pre9 ++ (k1000 cs ++ tail2) := by
  rw [osL_eq]
  unfold allL framedL pre9 tail2 k1000
  simp only [List.map_cons, List.map_nil, List.cons_append, List.nil_append, List.append_assoc]
theorem k1000_fine {cs : List (Int × Str)} (h : ∀ p ∈ cs, Fine p.2) : ∀ p ∈ k1000 cs, Fine p.2 := fun p hp => by
  obtain ⟨q, hq, rfl⟩ := List.mem_map.mp hp
  exact h q hq
theorem chunksI_fine {said : Str} (h : Fine said) {sz : Nat} (hs : 0 < sz) (code : Int) : ∀ p ∈ chunksI said sz code, Fine p.2 := fun p hp => by
  obtain ⟨i, hi, rfl⟩ := List.mem_map.mp hp
  exact h.chunk (Nat.le_of_lt ((chunk_lt hs).mp (List.mem_range.mp hi)))
theorem chunksI_texts (said : Str) (sz : Nat) (code : Int) : (chunksI said sz code).map (·.2) = texts said sz := by
  unfold chunksI texts; rw [List.map_map]; rfl
section
variable {cs : List (Int × Str)}
theorem tg_len : (pre9 ++ (k1000 cs ++ tail2)).length = 11 + cs.length := by
  simp only [List.length_append, k1000, List.length_map, pre9, tail2, List.length_cons, List.length_nil]; omega
theorem tg_pre {i : Nat} (h : i < 9) : (pre9 ++ (k1000 cs ++ tail2))[i]? = pre9[i]? := List.getElem?_append_left h
theorem tg_post {i : Nat} (h : 9 ≤ i) : (pre9 ++ (k1000 cs ++ tail2))[i]? = (k1000 cs ++ tail2)[i - 9]? := List.getElem?_append_right h
theorem tg_A_end : (pre9 ++ (k1000 cs ++ tail2))[9 + cs.length]? = some (1000, Str.ofString "A" ++ Str.ofString "_END") := by
  rw [tg_post (by omega), Nat.add_sub_cancel_left, List.getElem?_append_right (by simp [k1000])]
  simp [k1000, tail2]
theorem us95 (x y : Str) (h : 95 ∈ y.cps.toList) : 95 ∈ (x ++ y).cps.toList := by
  rw [Str.cps_append, Array.toList_append]; exact List.mem_append_right _ h
theorem pre9_ne (y : Str) (k n : Nat) (hk : ((pre9.drop k).take n).all (fun p => p.2 != y) = true) {i : Nat} {p : Int × Str} (h1 : k ≤ i) (h2 : i < k + n) (hp : pre9[i]? = some p) : p.2 ≠ y := by
  have hm : p ∈ (pre9.drop k).take n := by
    refine List.mem_of_getElem? (i := i - k) ?_
    rw [List.getElem?_take, if_pos (by omega), List.getElem?_drop, show k + (i - k) = i by omega]; exact hp
  have := List.all_eq_true.mp hk p hm
  exact bne_iff_ne.mp this
theorem post_ne (hf : ∀ p ∈ cs, Fine p.2) (y : Str) (hy : 95 ∈ y.cps.toList) (ht : tail2.all (fun p => p.2 != y) = true) {i : Nat} {p : Int × Str} (hp : (k1000 cs ++ tail2)[i]? = some p) : p.2 ≠ y := by
  rcases List.mem_append.mp (List.mem_of_getElem? hp) with hm | hm
  · exact (k1000_fine hf p hm).ne hy
  · exact bne_iff_ne.mp (List.all_eq_true.mp ht p hm)
theorem mid_ne (hf : ∀ p ∈ cs, Fine p.2) (y : Str) (hy : 95 ∈ y.cps.toList) {i : Nat} {p : Int × Str} (hi : i < cs.length) (hp : (k1000 cs ++ tail2)[i]? = some p) : p.2 ≠ y := by
  rw [List.getElem?_append_left (by simpa [k1000] using hi)] at hp
  exact (k1000_fine hf p (List.mem_of_getElem? hp)).ne hy
theorem A_hE (hf : ∀ p ∈ cs, Fine p.2) : ∀ i p, i < 9 + cs.length → (pre9 ++ (k1000 cs ++ tail2))[i]? = some p → p.1 = 1000 → p.2 ≠ Str.ofString "A" ++ Str.ofString "_END" := fun i p hi hp _ => by
  rcases Nat.lt_or_ge i 9 with q | q
  · rw [tg_pre q] at hp
    exact pre9_ne _ 0 9 (by decide +kernel) (Nat.zero_le _) (by omega) hp
  · rw [tg_post q] at hp
    exact mid_ne hf _ (us95 _ _ (by decide)) (by omega) hp
theorem A_hB (hf : ∀ p ∈ cs, Fine p.2) : ∀ i p, 8 < i → (pre9 ++ (k1000 cs ++ tail2))[i]? = some p → p.1 = 1000 → p.2 ≠ Str.ofString "A" ++ Str.ofString "_BEGIN" := fun i p hi hp _ => by
  rw [tg_post (by omega)] at hp
  exact post_ne hf _ (us95 _ _ (by decide)) (by decide +kernel) hp
theorem B_hE : ∀ i p, i < 6 → (pre9 ++ (k1000 cs ++ tail2))[i]? = some p → p.1 = 1000 → p.2 ≠ Str.ofString "B" ++ Str.ofString "_END" := fun i p hi hp _ => by
  rw [tg_pre (by omega)] at hp
  exact pre9_ne _ 0 6 (by decide +kernel) (Nat.zero_le _) (by omega) hp
theorem B_hB (hf : ∀ p ∈ cs, Fine p.2) : ∀ i p, 2 < i → (pre9 ++ (k1000 cs ++ tail2))[i]? = some p → p.1 = 1000 → p.2 ≠ Str.ofString "B" ++ Str.ofString "_BEGIN" := fun i p hi hp _ => by
  rcases Nat.lt_or_ge i 9 with q | q
  · rw [tg_pre q] at hp
    exact pre9_ne _ 3 6 (by decide +kernel) (by omega) (by omega) hp
  · rw [tg_post q] at hp
    exact post_ne hf _ (us95 _ _ (by decide)) (by decide +kernel) hp
theorem tg_cut : ((pre9 ++ (k1000 cs ++ tail2)).take (9 + cs.length)).drop 9 = k1000 cs := by
  have h1 : (pre9 ++ (k1000 cs ++ tail2)).take (9 + cs.length) = pre9 ++ k1000 cs := by
    rw [List.take_append, List.take_of_length_le (by show 9 ≤ _; omega), show 9 + cs.length - pre9.length = cs.length from Nat.add_sub_cancel_left ..]
    rw [List.take_append_of_le_length (by simp [k1000]), List.take_of_length_le (by simp [k1000])]
  rw [h1]; rfl
theorem tg_cutB : ((pre9 ++ (k1000 cs ++ tail2)).take 6).drop 3 = osL := by
  rw [List.take_append_of_le_length (by decide), osL_eq]; rfl
end
end

section
theorem law_body : bodyOf lawD = [lawS 0, lawS 1, lawS 2, lawS 3, lawS 4, lawS 5, lawS 6, lawS 7, lawS 8, lawS 9, lawS 10, lawS 11, lawS 12, lawS 13, lawS 14, lawS 15, lawS 16, lawS 17, lawS 18, lawS 19, lawS 20, lawS 21, lawS 22, lawS 23, lawS 24, lawS 25, lawS 26, lawS 27, lawS 28] := by kernel_rfl
section
variable {w : World} {A : Around} {E : Value → Shared → Prop} {s₀ s s' b : Shared} {env : Env} {ow : Ow} {m cm : Str → Option Value} {S : List (Addr × Obj)} {v : Value} {dd : Nat}

/-- one statement, then the rest -/
theorem ex_step {M : Model} {st : Stmt} {rest : List Stmt} {n : Nat} {Q : Flow → Shared → Prop} (hn : n ≤ s.toks)
    (h : wpAny M A (exec st env) (fun f s' => n ≤ s'.toks → match f with | .next => wpAny M A (execs rest env) Q (fun _ _ => False) s' | f => Q f s') (fun _ _ => False) s) :
    wpAny M A (execs (st :: rest) env) Q (fun _ _ => False) s :=
  wpAny_execs_cons (wpAny_with_toks hn (wpAny_mono h (fun _ _ z => z) fun _ _ z => z.elim))

theorem law_A {l : Addr} {items : Array Value} {k L : Nat} {ns : List Int} {rest : List Stmt} {Q : Flow → Shared → Prop} (I : EnvIs env lawN) (hA : AO 100 A) (X : Fx w s₀ env ⟨.of true, []⟩ m cm S s) (hcl : env.cells = cellsFrom (L + 1) lawN [])
    (hm1 : m "script" = some (.ref l)) (hl : (l, lstO items k) ∈ S) (hi : IntsOf items ns) (hz : ns.length ≤ 63) (htk : 701 ≤ s.toks)
    (h : ∀ (head : Int) (N : List Int) (sz : Nat) (e : Str) (th tw te tc tz : Tok) m' cm' S' s' D items' k', endsL[((head.fdiv 90).fmod 4).toNat]? = some e → 0 < sz → sz ≤ 1000 → te ≠ 0 → te < s'.toks → 701 ≤ s'.toks → Fx w s₀ env ⟨.of true, []⟩ m' cm' S' s' →
      m' "head" = some (.int head th) → m' "pieces" = some (.ref D) → (D, lstO items' k') ∈ S' → StrsOf items' (psOf head N) → m' "whole" = some (.str (Txt.join (Str.ofString "") (psOf head N)) tw) → m' "end" = some (.str e te) → cm' "size" = some (.int (sz : Int) tz) → cm' "code" = some (.int (codeOf head) tc) →
      wpAny (model P0 w) A (execs rest env) Q (fun _ _ => False) s') :
    wpAny (model P0 w) A (execs (lawS 0 :: lawS 1 :: lawS 2 :: lawS 3 :: lawS 4 :: lawS 5 :: lawS 6 :: lawS 7 :: lawS 8 :: rest) env) Q (fun _ _ => False) s := by
  have hl2 := law_cells hcl
  have c2 : env.cells.lookup ("code" : Str) = some (L + 2) := by rw [hl2]; rfl
  have c3 : env.cells.lookup ("size" : Str) = some (L + 1) := by rw [hl2]; rfl
  have hce : ∀ q ∈ env.cells, ∃ n, env.cells.lookup n = some q.2 := by
    intro q hq
    exact ⟨q.1, by rw [hl2] at hq ⊢; simp only [List.mem_cons, List.not_mem_nil, or_false] at hq; rcases hq with rfl | rfl | rfl | rfl <;> rfl⟩
  refine ex_step htk (law_s0 I X hm1 hl (by rw [hi.size]; exact hz) hi fun D₀ it₀ s₀' X₀ hi₀ ht₀ => ?_)
  show wpAny _ _ (execs _ env) _ _ _
  clear X
  obtain ⟨head, N', hN⟩ : ∃ n r, ns ++ moreL = n :: r := by
    cases ns with
    | nil => exact ⟨_, _, rfl⟩
    | cons n r => exact ⟨_, _, rfl⟩
  have hNl : (ns ++ moreL).length ≤ 72 := by rw [List.length_append]; show _ + 9 ≤ _; omega
  generalize ns ++ moreL = N at hi₀ hN hNl
  refine ex_step ht₀ (law_s1 I X₀ (by walk_at "m.look") (.head _) (hN ▸ hi₀) fun t₁ s₁ X₁ ht₁ => ?_)
  show wpAny _ _ (execs _ env) _ _ _
  refine ex_step ht₁ (law_s2 (dd := 100) I hA (by decide) X₁ hce (by walk_at "m.look") (by walk_at "m.look") (.head _) hi₀ (by omega) fun D₂ it₂ k₂ s₂ X₂ hi₂ ht₂ => ?_)
  show wpAny _ _ (execs _ env) _ _ _
  refine ex_step ht₂ (law_s3 I X₂ (by walk_at "m.look") (by walk_at "m.look") (.head _) hi₂ (by rw [List.length_map, List.length_drop, List.length_take]; omega) fun D₃ it₃ k₃ m₃ S₃ s₃ X₃ hm₃ hp₃ hl₃ hi₃ ht₃ => ?_)
  show wpAny _ _ (execs _ env) _ _ _
  have hi₃' : StrsOf it₃ (psOf head N) := hi₃
  obtain ⟨f1, f2, f3⟩ := psOf_facts head N
  have hh₃ : m₃ "head" = some (.int head t₁) := (hm₃ _ (by decide)).trans (by walk_at "m.look")
  clear hm₃ X₀ X₁ X₂
  refine ex_step ht₃ (law_s4 (dd := 100) I hA X₃ hp₃ hl₃ hi₃' (by omega) fun t₄ s₄ X₄ ht₄ => ?_)
  show wpAny _ _ (execs _ env) _ _ _
  refine ex_step ht₄ (law_s5 (dd := 80) I hA X₄ (by walk_at "m.look") (Nat.lt_of_lt_of_le (by decide) ht₄) fun e te S₅ s₅ he hte0 hte X₅ ht₅ => ?_)
  show wpAny _ _ (execs _ env) _ _ _
  have hT : max 701 (te + 1) ≤ s₅.toks := Nat.max_le.mpr ⟨ht₅, hte⟩
  refine ex_step hT (law_s6 I X₅ (by walk_at "m.look") c3 fun t₆ s₆ X₆ ht₆ => ?_)
  show wpAny _ _ (execs _ env) _ _ _
  refine ex_step ht₆ (law_s7 I X₆ (by walk_at "m.look") c3 (by walk_at "m.look") fun t₇ cm₇ s₇ X₇ hz₇ hr₇ ht₇ => ?_)
  show wpAny _ _ (execs _ env) _ _ _
  obtain ⟨sz, hsz, hsz0, hsz1⟩ := size_facts head
  rw [hsz] at hz₇
  refine ex_step ht₇ (law_s8 I X₇ (by walk_at "m.look") c2 fun t₈ S₈ s₈ X₈ ht₈ => ?_)
  show wpAny _ _ (execs _ env) _ _ _
  exact h head N sz e t₁ t₄ te t₈ t₇ _ _ _ s₈ D₃ it₃ k₃ he hsz0 hsz1 hte0 (Nat.lt_of_lt_of_le (Nat.lt_of_lt_of_le (Nat.lt_succ_self _) (Nat.le_max_right 701 _)) ht₈) (Nat.le_trans (Nat.le_max_left _ _) ht₈) X₈ (by walk_at "m.look") (by walk_at "m.look") (List.mem_append_right _ (List.mem_append_right _ hl₃)) hi₃' (by walk_at "m.look") (by walk_at "m.look") (by walk_at "m.look") (by walk_at "m.look")
end
end

section
/-- what is known of the texts -/
structure Plain (ps : List Str) (e : Str) : Prop where
  f1 : ps.length ≤ 31
  f2 : ∀ p ∈ ps, Fine p
  f3 : (ps.map (·.length)).sum ≤ 400
  e0 : e.cps.toList ≠ []
  e1 : e.length = 2
  e2 : Fine e
  e3 : ((Str.ofString "\n") == e) = false
  e4 : (e == (Str.ofString "\n")) = false
  e5 : swapS (Str.ofString "other") (Str.ofString "\n") e = Str.ofString "other"
  e6 : swapS (Str.ofString "other") e (Str.ofString "\n") = Str.ofString "other"
abbrev wholeS (ps : List Str) : Str := Txt.join (Str.ofString "") ps
theorem nl_ne : (Str.ofString "\n").cps.toList ≠ [] := by decide
theorem cj_ne : (Str.ofString "^J").cps.toList ≠ [] := by decide
theorem cj_fine : Fine (Str.ofString "^J") := fine_of (by decide +kernel)
theorem nl_fine : Fine (Str.ofString "\n") := fine_of (by decide +kernel)
theorem wholeS_len {ps : List Str} {e : Str} (h : Plain ps e) : (wholeS ps).length ≤ 400 := by rw [join_len]; exact h.f3
theorem wholeS_fine {ps : List Str} {e : Str} (h : Plain ps e) : Fine (wholeS ps) := Fine.join h.f2
theorem said_len {ps : List Str} {e x : Str} (h : Plain ps e) (hx : x.length = 2) : (swapS (wholeS ps) "\n" x).length ≤ 1200 := by
  have h1 := swap_length (x := wholeS ps) (old := "\n") (new := x) nl_ne
  rw [hx] at h1
  have := wholeS_len h
  omega
theorem chunks_sum (said : Str) {sz : Nat} (hs : 0 < sz) (cv : Value) : (((chunks said sz cv).map (·.2)).map (·.length)).sum = said.length := by
  rw [chunks_texts, ← join_len, join_texts hs]
section
variable {w : World} {A : Around} {E : Value → Shared → Prop} {s₀ s s' b : Shared} {env : Env} {ow : Ow} {m cm : Str → Option Value} {S : List (Addr × Obj)} {v : Value} {dd : Nat}

theorem law_B {D : Addr} {items : Array Value} {k L sz n : Nat} {head code : Int} {ps : List Str} {e : Str} {th tw te tc tz : Tok} {rest : List Stmt} {Q : Flow → Shared → Prop} (I : EnvIs env lawN) (hA : AO 100 A) (X : Fx w s₀ env ⟨.of true, []⟩ m cm S s) (hcl : env.cells = cellsFrom (L + 1) lawN [])
    (hp : Plain ps e) (hs0 : 0 < sz) (hs1 : sz ≤ 1000) (hte0 : te ≠ 0) (hte : te < n) (htk : n ≤ s.toks)
    (hm1 : m "head" = some (.int head th)) (hm2 : m "pieces" = some (.ref D)) (hl : (D, lstO items k) ∈ S) (hi : StrsOf items ps) (hm3 : m "whole" = some (.str (wholeS ps) tw)) (hm4 : m "end" = some (.str e te)) (hv1 : cm "size" = some (.int (sz : Int) tz)) (hv2 : cm "code" = some (.int code tc))
    (h : ∀ (tb tw te' : Tok) (t Dp : Addr) m' cm' S' s', n ≤ s'.toks → Fx w s₀ env ⟨.of true, []⟩ m' cm' S' s' → te' = te →
      m' "whole" = some (.str (wholeS ps) tw) → m' "end" = some (.str e te') → m' "cut" = some (.ref t) → TP S' t (chunksI (swapS (wholeS ps) "\n" e) sz code) → m' "parts" = some (.ref Dp) → PL S' Dp (chunksI (swapS (wholeS ps) "\n" e) sz code) →
      m' "back" = some (.str (swapS (swapS (wholeS ps) "\n" e) e "\n") tb) → wpAny (model P0 w) A (execs rest env) Q (fun _ _ => False) s') :
    wpAny (model P0 w) A (execs (lawS 9 :: lawS 10 :: lawS 11 :: lawS 12 :: lawS 13 :: lawS 14 :: lawS 15 :: rest) env) Q (fun _ _ => False) s := by
  have hl2 := law_cells hcl
  have c1 : env.cells.lookup ("said" : Str) = some (L + 3) := by rw [hl2]; rfl
  have c2 : env.cells.lookup ("code" : Str) = some (L + 2) := by rw [hl2]; rfl
  have c3 : env.cells.lookup ("size" : Str) = some (L + 1) := by rw [hl2]; rfl
  have g1 := wholeS_len hp
  have g2 := wholeS_fine hp
  have g3 := said_len hp hp.e1
  have g4 : Fine (swapS (wholeS ps) "\n" e) := g2.swap hp.e2
  have r1 : Txt.replace (wholeS ps) (Str.ofString "\n") e = swapS (wholeS ps) "\n" e := replace_swap _ _ _ nl_ne
  refine ex_step htk (law_s9 (dd := 80) I hA X hm3 hm4 c1 (by omega) (by rw [hp.e1]; decide) fun t₉ S₉ s₉ X₉ ht₉ => ?_)
  show wpAny _ _ (execs _ env) _ _ _
  generalize hsaid : swapS (wholeS ps) "\n" e = said at *
  have hN := chunkN_le (len := said.length) hs0
  refine ex_step ht₉ (law_s10 (dd := 100) I hA (by decide) X₉ hcl (by walk_at "m.look") (by walk_at "m.look") (by walk_at "m.look") (by omega) hs0 hs1 fun Dp S₁₀ s₁₀ X₁₀ hP ht₁₀ => ?_)
  show wpAny _ _ (execs _ env) _ _ _
  refine ex_step ht₁₀ (law_s11 (dd := 80) I hA X₁₀ (by walk_at "m.look") (by walk_at "m.look") c1 (by omega) (by rw [hp.e1]; decide) hp.e0 fun t₁₁ S₁₁ s₁₁ X₁₁ ht₁₁ => ?_)
  show wpAny _ _ (execs _ env) _ _ _
  refine ex_step ht₁₁ (law_s12 I X₁₁ (by walk_at "m.look") fun t₁₂ s₁₂ X₁₂ ht₁₂ => ?_)
  show wpAny _ _ (execs _ env) _ _ _
  have up : ∀ p ∈ S, p ∈ S₁₁ ++ (S₁₀ ++ (S₉ ++ S)) := fun p hp => List.mem_append_right _ (List.mem_append_right _ (List.mem_append_right _ hp))
  refine ex_step ht₁₂ (law_s13 I X₁₂ (by walk_at "m.look") (up _ hl) (by rw [hi.size]; have := hp.f1; omega) fun D2 k2 s₁₃ X₁₃ ht₁₃ => ?_)
  show wpAny _ _ (execs _ env) _ _ _
  have f1 := hp.f1
  have f3 := hp.f3
  refine ex_step ht₁₃ (law_s14 (dd := 60) I hA (by decide) X₁₃ (by walk_at "m.look") (by walk_at "m.look") (by walk_at "m.look") (by walk_at "m.look") (by walk_at "m.look") c2 c3 (by walk_at "m.look") (by walk_at "m.look") (.tail _ (up _ hl)) (.head _) hi hi (by omega) rfl (by show (wholeS ps).length ≤ _; omega) (by omega) hte0 (Nat.lt_of_lt_of_le hte ht₁₃) hp.e3 (by rw [hp.e1]; decide) (by rw [r1]; omega) hs0 hs1 fun t S₁₄ s₁₄ X₁₄ hT ht₁₄ => ?_)
  show wpAny _ _ (execs _ env) _ _ _
  rw [r1] at hT
  have hTP := hT.tpc
  have hP' : PL (S₁₄ ++ ((D2, lstO items k2) :: (S₁₁ ++ (S₁₀ ++ (S₉ ++ S))))) Dp (chunksI said sz code) := hP.sub fun p hp => List.mem_append_right _ (.tail _ (List.mem_append_right _ hp))
  refine ex_step ht₁₄ (law_s15 (dd := 60) I hA (by decide) X₁₄ (by walk_at "m.look") (by walk_at "m.look") (by walk_at "m.look") (by walk_at "m.look") (by walk_at "m.look") (by walk_at "m.look") hT hTP hP' (List.mem_append_right _ (.tail _ (up _ hl))) (List.mem_append_right _ (.head _)) hi hi (fun p hp => (chunksI_fine g4 hs0 code p hp).ok) (fun p hp' => (hp.f2 p hp').ok) (by rw [chunksI_len]; omega) (by rw [chunks_len]; omega) (by rw [chunks_sum _ hs0]; omega) hte0 (Nat.lt_of_lt_of_le hte ht₁₄) hp.e4 (by rw [chunks_texts, join_texts hs0]; exact replace_swap _ _ _ hp.e0) fun S₁₅ s₁₅ X₁₅ ht₁₅ => ?_)
  show wpAny _ _ (execs _ env) _ _ _
  exact h _ _ _ t Dp _ _ _ s₁₅ ht₁₅ X₁₅ rfl (by walk_at "m.look") (by walk_at "m.look") (by walk_at "m.look") (hTP.sub fun p hp => List.mem_append_right _ hp) (by walk_at "m.look") (hP'.sub fun p hp => List.mem_append_right _ hp) (by walk_at "m.look")
end
end

section
section
variable {w : World} {A : Around} {E : Value → Shared → Prop} {s₀ s s' b : Shared} {env : Env} {ow : Ow} {m cm : Str → Option Value} {S : List (Addr × Obj)} {v : Value} {dd : Nat}

theorem law_C {L n : Nat} {ps : List Str} {e : Str} {tw : Tok} {rest : List Stmt} {Q : Flow → Shared → Prop} (I : EnvIs env lawN) (hA : AO 100 A) (X : Fx w s₀ env ⟨.of true, []⟩ m cm S s) (hcl : env.cells = cellsFrom (L + 1) lawN [])
    (hp : Plain ps e) (hn : 701 ≤ n) (htk : n ≤ s.toks) (hm1 : m "whole" = some (.str (wholeS ps) tw))
    (h : ∀ m' cm' S' s', n ≤ s'.toks → Fx w s₀ env ⟨.of true, []⟩ m' cm' (S' ++ S) s' → (∀ y : Str, y ≠ "told" → m' y = m y) → wpAny (model P0 w) A (execs rest env) Q (fun _ _ => False) s') :
    wpAny (model P0 w) A (execs (lawS 16 :: lawS 17 :: lawS 18 :: lawS 19 :: rest) env) Q (fun _ _ => False) s := by
  have hl2 := law_cells hcl
  have c1 : env.cells.lookup ("plain" : Str) = some (L + 4) := by rw [hl2]; rfl
  have g1 := wholeS_len hp
  have g2 := wholeS_fine hp
  have g3 := said_len hp (x := "^J") rfl
  have g4 : Fine (swapS (wholeS ps) "\n" "^J") := g2.swap cj_fine
  have r1 : Txt.replace (wholeS ps) (Str.ofString "\n") (Str.ofString "^J") = swapS (wholeS ps) "\n" "^J" := replace_swap _ _ _ nl_ne
  refine ex_step htk (law_s16 (dd := 60) I hA (by decide) X hm1 (Nat.lt_of_lt_of_le (Nat.lt_of_succ_le hn) htk) (by show (wholeS ps).length ≤ _; omega) (by rw [r1]; omega) fun t S₁ s₁ X₁ hT ht₁ => ?_)
  show wpAny _ _ (execs _ env) _ _ _
  rw [r1] at hT
  refine ex_step ht₁ (law_s17 (dd := 80) I hA X₁ (by walk_at "m.look") c1 (by show (wholeS ps).length ≤ _; omega) fun t₂ S₂ s₂ X₂ ht₂ => ?_)
  show wpAny _ _ (execs _ env) _ _ _
  generalize hpl : swapS (wholeS ps) "\n" "^J" = plain at *
  have hN := chunkN_le (len := plain.length) (show 0 < 255 by decide)
  have hT₂ := hT.sub (T := S₂ ++ (S₁ ++ S)) fun p hp => List.mem_append_right _ hp
  refine ex_step ht₂ (law_s18 (dd := 60) (t := t) I hA (by decide) X₂ hcl (by walk_at "m.look") (by walk_at "m.look") hT₂.tpc (by omega) (fun p hp => (chunksI_fine g4 (by decide) 303 p hp).ok) fun S₃ s₃ X₃ ht₃ => ?_)
  show wpAny _ _ (execs _ env) _ _ _
  refine ex_step ht₃ (law_s19 (dd := 60) (t := t) I hA (by decide) X₃ (by walk_at "m.look") c1 (by walk_at "m.look") (hT₂.sub fun p hp => List.mem_append_right _ hp) (by rw [chunks_len]; omega) (by rw [chunks_sum _ (by decide)]; omega) (by omega) (Nat.lt_of_lt_of_le (Nat.lt_of_succ_le hn) ht₃) (by rw [chunks_texts, join_texts (by decide)]; exact replace_swap _ _ _ cj_ne) fun S₄ s₄ X₄ ht₄ => ?_)
  show wpAny _ _ (execs _ env) _ _ _
  exact h _ _ (S₄ ++ S₃ ++ S₂ ++ S₁) s₄ ht₄ (by simpa only [List.append_assoc] using X₄) fun y hy => if_neg hy
end
end

section
section
variable {w : World} {A : Around} {E : Value → Shared → Prop} {s₀ s s' b : Shared} {env : Env} {ow : Ow} {m cm : Str → Option Value} {S : List (Addr × Obj)} {v : Value} {dd : Nat}

theorem law_D {L n sz : Nat} {ps : List Str} {e : Str} {code : Int} {te tb : Tok} {t Dp : Addr} {Q : Flow → Shared → Prop} (I : EnvIs env lawN) (hA : AO 100 A) (X : Fx w s₀ env ⟨.of true, []⟩ m cm S s) (hcl : env.cells = cellsFrom (L + 1) lawN [])
    (hp : Plain ps e) (hs0 : 0 < sz) (hte0 : te ≠ 0) (hte : te < n) (htk : n ≤ s.toks)
    (hm1 : m "end" = some (.str e te)) (hm2 : m "cut" = some (.ref t)) (hTP : TP S t (chunksI (swapS (wholeS ps) "\n" e) sz code)) (hm3 : m "parts" = some (.ref Dp)) (hPL : PL S Dp (chunksI (swapS (wholeS ps) "\n" e) sz code))
    (hm4 : m "back" = some (.str (swapS (swapS (wholeS ps) "\n" e) e "\n") tb))
    (h : ∀ m' cm' S' s', Fx w s₀ env ⟨.of true, []⟩ m' cm' S' s' → Q (.ret (.bool true)) s') :
    wpAny (model P0 w) A (execs (lawS 20 :: lawS 21 :: lawS 22 :: lawS 23 :: lawS 24 :: lawS 25 :: lawS 26 :: lawS 27 :: lawS 28 :: []) env) Q (fun _ _ => False) s := by
  have hl2 := law_cells hcl
  have hce : ∀ q ∈ env.cells, ∃ n, env.cells.lookup n = some q.2 := by
    intro q hq
    exact ⟨q.1, by rw [hl2] at hq ⊢; simp only [List.mem_cons, List.not_mem_nil, or_false] at hq; rcases hq with rfl | rfl | rfl | rfl <;> rfl⟩
  have g1 := wholeS_len hp
  have g2 := wholeS_fine hp
  have g3 := said_len hp hp.e1
  have g4 : Fine (swapS (wholeS ps) "\n" e) := g2.swap hp.e2
  generalize hsaid : swapS (wholeS ps) "\n" e = said at *
  have hN := chunkN_le (len := said.length) hs0
  have hcf := chunksI_fine g4 hs0 code
  have hct := chunksI_texts said sz code
  have hcn : (chunksI said sz code).length ≤ 1200 := by rw [chunksI_len]; omega
  generalize hcs : chunksI said sz code = cs at *
  have ro : Txt.replace (Str.ofString "other") (Str.ofString "\n") e = Str.ofString "other" := (replace_swap _ _ _ nl_ne).trans hp.e5
  have hol : osL.length = 3 := by rw [osL_eq]; rfl
  refine ex_step htk (law_s20 (dd := 80) I hA X hce fun x dx d tk s₁ X₁ hd0 hds hdx hddx ht₁ => ?_)
  show wpAny _ _ (execs _ env) _ _ _
  refine ex_step ht₁ (law_s21 (dd := 60) I hA (by decide) X₁ (by walk_at "m.look") hte0 (Nat.lt_of_lt_of_le hte ht₁) hp.e3 (by rw [hp.e1]; decide) ro fun to tco S₂ s₂ X₂ hTo ht₂ => ?_)
  show wpAny _ _ (execs _ env) _ _ _
  have hO : TP (S₂ ++ S) to osL := hTo.tpc
  refine ex_step ht₂ (law_s22 (dd := 40) I hA (by decide) X₂ hd0 hdx hddx (by walk_at "m.look") (by walk_at "m.look") (by walk_at "m.look") hO (hTP.sub fun p hp => List.mem_append_right _ hp) (by omega) (by omega) fun t' od S₃ s₃ X₃ hT3 hM ht₃ => ?_)
  show wpAny _ _ (execs _ env) _ _ _
  rw [show ((1001, ("APP" : Str)) :: allL osL cs : List (Int × Str)) = pre9 ++ (k1000 cs ++ tail2) from tags_eq cs] at hT3
  refine ex_step ht₃ (law_s23 (dd := 40) I hA X₃ hds (by walk_at "m.look") hM fun S₄ s₄ X₄ ht₄ => ?_)
  show wpAny _ _ (execs _ env) _ _ _
  have hT4 := hT3.sub (T := S₄ ++ (S₃ ++ (S₂ ++ S))) fun p hp => List.mem_append_right _ hp
  refine ex_step ht₄ (law_s24 (dd := 60) (i0 := 8) (j := 9 + cs.length) I hA (by decide) X₄ (by walk_at "m.look") hT4 tg_A_end (by rw [tg_pre (by decide)]; rfl) (by omega) (A_hE hcf) (A_hB hcf) fun u1 u2 S₅ s₅ X₅ ht₅ => ?_)
  show wpAny _ _ (execs _ env) _ _ _
  have hT5 := hT4.sub (T := S₅ ++ (S₄ ++ (S₃ ++ (S₂ ++ S)))) fun p hp => List.mem_append_right _ hp
  refine ex_step ht₅ (law_s25 (dd := 60) (i0 := 2) (j := 6) I hA (by decide) X₅ (by walk_at "m.look") hT5 (by rw [tg_pre (by decide)]; rfl) (by rw [tg_pre (by decide)]; rfl) (by decide) B_hE (B_hB hcf) fun u3 u4 S₆ s₆ X₆ ht₆ => ?_)
  show wpAny _ _ (execs _ env) _ _ _
  have hT6 := hT5.sub (T := S₆ ++ (S₅ ++ (S₄ ++ (S₃ ++ (S₂ ++ S))))) fun p hp => List.mem_append_right _ hp
  have hO6 := hO.sub (T := S₆ ++ (S₅ ++ (S₄ ++ (S₃ ++ (S₂ ++ S))))) fun p hp => List.mem_append_right _ (List.mem_append_right _ (List.mem_append_right _ (List.mem_append_right _ hp)))
  have hC6 := hTP.sub (T := S₆ ++ (S₅ ++ (S₄ ++ (S₃ ++ (S₂ ++ S))))) fun p hp => List.mem_append_right _ (List.mem_append_right _ (List.mem_append_right _ (List.mem_append_right _ (List.mem_append_right _ hp))))
  have hP6 := hPL.sub (B' := S₆ ++ (S₅ ++ (S₄ ++ (S₃ ++ (S₂ ++ S))))) fun p hp => List.mem_append_right _ (List.mem_append_right _ (List.mem_append_right _ (List.mem_append_right _ (List.mem_append_right _ hp))))
  refine ex_step ht₆ (law_s26 I X₆ (by walk_at "m.look") (by walk_at "m.look") (by walk_at "m.look") (by walk_at "m.look") (by walk_at "m.look") (by walk_at "m.look") hO6 hC6 (by omega) (by omega) (by rw [hol]; rfl) (by push_cast; omega) rfl (by rw [hol]; rfl) fun s₇ X₇ ht₇ => ?_)
  show wpAny _ _ (execs _ env) _ _ _
  have e1 : ((9 + cs.length : Nat) : Int) + 1 - 1 = ((9 + cs.length : Nat) : Int) := by omega
  have cut1 : ((pre9 ++ (k1000 cs ++ tail2)).take (((9 + cs.length : Nat) : Int) + 1 - 1).toNat).drop (((8 : Nat) : Int) + 1).toNat = k1000 cs := by
    rw [e1, Int.toNat_natCast]; exact tg_cut
  refine ex_step ht₇ (law_s27 (dd := 60) I hA (by decide) X₇ (by walk_at "m.look") (by walk_at "m.look") (by walk_at "m.look") (by walk_at "m.look") hT6 hP6 (by rw [tg_len]; omega) (by omega) (by decide) (by omega) cut1 (fun p hp => (hcf p hp).ok) fun S₈ s₈ X₈ ht₈ => ?_)
  show wpAny _ _ (execs _ env) _ _ _
  have hT8 := hT6.sub (T := S₈ ++ (S₆ ++ (S₅ ++ (S₄ ++ (S₃ ++ (S₂ ++ S)))))) fun p hp => List.mem_append_right _ hp
  have hk2 : (k1000 cs).map (·.2) = texts said sz := by
    rw [← hct]; unfold k1000; rw [List.map_map]; rfl
  have hk3 : osL.map (·.2) = texts (Str.ofString "other") 2 := chunksI_texts _ _ _
  refine ex_step ht₈ (law_s28 (dd := 60) (xs := texts said sz) (ys := texts (Str.ofString "other") 2) I hA (by decide) X₈ (by walk_at "m.look") (by walk_at "m.look") (by walk_at "m.look") (by walk_at "m.look") (by walk_at "m.look") (by walk_at "m.look") (by walk_at "m.look") hT8 (by rw [tg_len]; omega) (by decide) (by omega) (by decide) (by decide) hte0 (Nat.lt_of_lt_of_le hte ht₈) hp.e4 (by rw [cut1]; exact hk2) (by rw [show ((pre9 ++ (k1000 cs ++ tail2)).take (((6 : Nat) : Int) + 1 - 1).toNat).drop (((2 : Nat) : Int) + 1).toNat = osL from tg_cutB]; exact hk3) (by rw [← join_len, join_texts hs0]; omega) (by rw [← join_len, join_texts (by decide)]; decide) (by rw [join_texts hs0]; exact replace_swap _ _ _ hp.e0) (by rw [join_texts (by decide)]; exact (replace_swap _ _ _ hp.e0).trans hp.e6) fun S₉ s₉ X₉ ht₉ => ?_)
  exact h _ _ _ s₉ X₉
end
end

section
section
variable {w : World} {A : Around} {E : Value → Shared → Prop} {s : Shared}
theorem law_spec {l : Addr} {items : Array Value} {k : Nat} {ns : List Int} (ok : Ok w s.heap) (hl : s.heap.get? l = some (lstO items k)) (h4 : l ∉ T4) (hi : IntsOf items ns) (hz : ns.length ≤ 63) (htk : 701 ≤ s.toks) (hA : AO 101 A) :
    wpAny (model P0 w) A (call (.ref 529) [.ref l]) (Ret w s (fun _ v => v = .bool true)) E s := by
  obtain ⟨oc, od, fd, sl, hlook, F, hclo, hb⟩ := fnLaw w
  refine callFT (B := [(l, lstO items k)]) ok (HS.nil.cons hl h4 rfl) hA hlook F hclo (BindsTo.of_eq (hb _)) (by rfl) ?_
  intro env s₁ L m cm I hc hcode hq hA' hm hcm X ht
  have hm1 := (hm "script" (by rfl)).trans (show _ = some (Value.ref l) from rfl)
  rw [law_body]
  refine law_A I hA' X hc hm1 (.head _) hi hz (Nat.le_trans htk ht) fun head N sz e th tw te tc tz m₂ cm₂ S₂ s₂ D it₂ k₂ he hs0 hs1 hte0 hte ht₂ X₂ a1 a2 a3 a4 a5 a6 a7 a8 => ?_
  obtain ⟨f1, f2, f3⟩ := psOf_facts head N
  obtain ⟨g1, g2, g3, g4, g5, g6, g7⟩ := ends_facts he
  have hp : Plain (psOf head N) e := ⟨f1, f2, f3, g1, g2, g3, g4, g5, g6, g7⟩
  refine law_B (n := max 701 (te + 1)) I hA' X₂ hc hp hs0 hs1 hte0 (Nat.lt_of_lt_of_le (Nat.lt_succ_self _) (Nat.le_max_right 701 _)) (Nat.max_le.mpr ⟨ht₂, hte⟩) a1 a2 a3 a4 a5 a6 a7 a8 fun tb tw' te' t Dp m₃ cm₃ S₃ s₃ ht₃ X₃ ete b1 b2 b3 b4 b5 b6 b7 => ?_
  subst ete
  refine law_C (n := max 701 (te' + 1)) I hA' X₃ hc hp (Nat.le_max_left _ _) ht₃ b1 fun m₄ cm₄ S₄ s₄ ht₄ X₄ hm₄ => ?_
  refine law_D (n := max 701 (te' + 1)) (sz := sz) I hA' X₄ hc hp hs0 hte0 (Nat.lt_of_lt_of_le (Nat.lt_succ_self _) (Nat.le_max_right 701 _)) ht₄ ((hm₄ _ (by decide)).trans b2) ((hm₄ _ (by decide)).trans b3) (b4.sub fun p hp => List.mem_append_right _ hp) ((hm₄ _ (by decide)).trans b5) (b6.sub fun p hp => List.mem_append_right _ hp) ((hm₄ _ (by decide)).trans b7) fun m₅ cm₅ S₅ s₅ X₅ => ?_
  exact X₅.ret rfl
end
end

section
def AllAt (h : Heap) (K : Frag) : List Addr → Prop
  | [] => True
  | a :: r => h.get? a = K.lookup a ∧ AllAt h K r
theorem AllAt.mem {h : Heap} {K : Frag} : ∀ {as : List Addr}, AllAt h K as → ∀ a ∈ as, h.get? a = K.lookup a
  | _ :: _, x, a, m => (List.mem_cons.mp m).elim (fun e => e ▸ x.1) fun m => AllAt.mem x.2 a m
theorem lookup_in {α β : Type} [BEq α] [LawfulBEq α] {a : α} {o : β} {K : List (α × β)} (e : K.lookup a = some o) : (a, o) ∈ K := by
  induction K with
  | nil => cases e
  | cons p r ih =>
    obtain ⟨b, x⟩ := p
    rw [List.lookup_cons] at e
    cases h : a == b with
    | true =>
      rw [h] at e
      have h' := eq_of_beq h
      subst h'
      cases e; exact .head _
    | false =>
      rw [h] at e
      exact .tail _ (ih e)
theorem AllAt.isIn {h : Heap} {K : Frag} {as : List Addr} (x : AllAt h K as) (e : as = K.map (·.1)) : K.In h := fun a o q => by
  have hm : a ∈ as := by rw [e]; exact List.mem_map.mpr ⟨(a, o), lookup_in q, rfl⟩
  rw [x.mem a hm]; exact q
theorem bmIn (w : World) : nsIn (KF w) mainGlobals "__builtins__" = some (some (.ref 4)) := by kernel_rfl
theorem heads4 (w : World) : ∀ q ∈ tabs4, codeHdIn (KF w) q.1 q.2 = true := by
  intro q hq
  simp only [tabs4, List.mem_cons, List.not_mem_nil, or_false] at hq
  rcases hq with rfl | rfl | rfl | rfl <;> kernel_rfl
theorem tabs4_T4 : ∀ q ∈ tabs4, q.2 ∈ T4 := by decide
theorem T4_tabs4 : ∀ P ∈ T4, ∃ q ∈ tabs4, q.2 = P := by decide
section
variable {w : World} {h : Heap} {mg mb : Str → Option Value} {p : Program} {loose : List Str} {mean : ExcName → Option Value}
theorem ok_of (K : (KF w).In h) (T : Top p loose mean mg mb h) (hT : ∀ P ∈ T4, h.get? P = some (tabObj #[])) : Ok w h where
  K := K
  g := ⟨mg, T.g⟩
  b := ⟨mb, T.b, T.builtins⟩
  lim := T.nolimit
  bm := by
    obtain ⟨bm, ob, e1, e2, e3, e4, e5, e6⟩ := T.bmain
    have e := mg_of K T.g (bmIn w)
    rw [e] at e1
    cases e1
    exact ⟨4, ob, e2, by decide, by decide, e3, e4, e5, e6, bmIn w⟩
  tb := fun q hq => by
    have C := codeHd_of_K K (heads4 w q hq)
    have hP := hT _ (tabs4_T4 q hq)
    exact ⟨#[], C.code hP trivial, C.tab hP, fun cv e => by cases e⟩
theorem fa_of {fa : Addr} {nm : Str} (K : (KF w).In h) (T : Top p loose mean mg mb h) (hn : nm = "law") (hmg : mg nm = some (.ref fa)) : fa = 529 := by
  subst hn
  have e := mg_of K T.g (show nsIn (KF w) mainGlobals "law" = some (some (.ref 529)) by kernel_rfl)
  rw [hmg] at e
  cases e; rfl
theorem oldK_of {h' : Heap} (K : (KF w).In h) (hT : ∀ P ∈ T4, h.get? P = some (tabObj #[])) (ok : Ok w h') (kt : Mine.KT h h') : OldK h h' := by
  have tab : ∀ P ∈ T4, isCodeTable h P ∧ ∃ ps, h'.get? P = some (tabObj ps) := fun P hP => by
    obtain ⟨q, hq, rfl⟩ := T4_tabs4 P hP
    have C := codeHd_of_K K (heads4 w q hq)
    obtain ⟨ps, _, b, _⟩ := (ok.tb q hq).go
    exact ⟨(C.tab (hT _ hP)).isCodeTable, ps, b.2⟩
  refine ⟨fun b o e => ?_, fun b o e => ?_⟩
  · by_cases hb : b ∈ T4
    · obtain ⟨c, ps, e'⟩ := tab b hb
      rw [hT b hb] at e
      cases e
      exact .inr (.inl ⟨c, rfl, #[], ps, rfl, by rw [e', Array.empty_append]⟩)
    · exact .inl (kt b o hb e)
  · by_cases hb : b ∈ T4
    · obtain ⟨_, ps, e'⟩ := tab b hb
      exact ⟨_, e'⟩
    · exact ⟨o, kt b o hb e⟩
end
end

section
theorem at_of {K : Frag} {h : Heap} {t : PySem.W.X.KT} {a : Addr} (H : PySem.W.X.KT.Holds h 1 0 t) (e2 : t.get a = K.lookup a) (e : (K.lookup a).isSome = true) : h.get? a = K.lookup a := by
  obtain ⟨o, e⟩ := Option.isSome_iff_exists.mp e
  rw [e] at e2 ⊢; exact PySem.W.X.kt_at H e2
theorem tabs_of {h : Heap} {t : PySem.W.X.KT} (H : PySem.W.X.KT.Holds h 1 0 t) (e1 : t.get 342 = some (tabObj #[])) (e2 : t.get 350 = some (tabObj #[])) (e3 : t.get 377 = some (tabObj #[])) (e4 : t.get 437 = some (tabObj #[])) : ∀ P ∈ T4, h.get? P = some (tabObj #[]) := by
  intro P hP
  simp only [T4, List.mem_cons, List.not_mem_nil, or_false] at hP
  rcases hP with rfl | rfl | rfl | rfl
  · exact PySem.W.X.kt_at H e1
  · exact PySem.W.X.kt_at H e2
  · exact PySem.W.X.kt_at H e3
  · exact PySem.W.X.kt_at H e4
theorem ints_of {vs : List Value} {ns : List Int} (h : IntsAre vs ns) : IntsOf vs.toArray ns := by
  unfold IntsOf
  rw [List.toList_toArray]
  induction h with
  | nil => rfl
  | cons n t _ ih => rw [List.map_cons, List.map_cons, ih]; rfl
theorem post_true (args : List WData) : PySem.Challenge.rw_bj5016_01.row.toRowW.claim.post args (.bool true) args = true := by
  show (WShape.has [] (.bool true) .bool && (WTm.eq .res (.lit (.bool true))).holds [] { args := args, res := some (.bool true), after := args }) = true
  rw [Bool.and_eq_true]
  constructor
  · simp [WShape.has, WShape.arms]
  · unfold WTm.holds
    simp [WTm.value, same]
theorem caller_room : AO 101 callerA := ⟨rfl, by decide, by decide⟩
section
variable {w : World} {s₁ : Shared} {mg mb : Str → Option Value} {p : Program} {loose : List Str} {mean mean' : ExcName → Option Value} {l fa : Addr} {vs : List Value} {ns : List Int} {c : ClaimW} {cl : Str → Option Addr} {args : List WData} {E : Value → Shared → Prop} {nm : Str}
theorem fin_good {s' : Shared} {v : Value} (h1 : ∀ cls, c.raises args cls = false) (h2 : c.post args (.bool true) args = true) (K : (KF w).In s₁.heap) (hT : ∀ P ∈ T4, s₁.heap.get? P = some (tabObj #[])) (r : Ret w s₁ (fun _ v => v = .bool true) v s') (hg : s₁.gens = #[]) : GoodWG c cl mean' args s₁ (.ok (.ret v)) s' := by
  obtain ⟨_, _, rfl⟩ := r.has
  exact ⟨.inl ⟨_, .bool true, [], rfl, h1, .bool true, h2, fun _ => ⟨.nil, fun a m => (nomatch m)⟩⟩, oldK_of K hT r.ok r.kt, r.os, r.ge.bare (AllBare.of_eq hg)⟩
theorem fin_law (K : (KF w).In s₁.heap) (T : Top p loose mean mg mb s₁.heap) (hT : ∀ P ∈ T4, s₁.heap.get? P = some (tabObj #[])) (hn : nm = "law") (hmg : mg nm = some (.ref fa)) (hg : s₁.gens = #[]) (ho : s₁.heap.get? l = some { cls := .type "list", data := .seq vs.toArray }) (hI : IntsAre vs ns)
    (hl : l = 530) (hz : ¬ ((63 : Nat) : Int) < (ns.length : Int)) (htk : 907 ≤ s₁.toks) (h1 : ∀ cls, c.raises args cls = false) (h2 : c.post args (.bool true) args = true) :
    wpAny (model P0 w) callerA (call (.ref fa) [.ref l]) (fun v s' => GoodWG c cl mean' args s₁ (.ok (.ret v)) s') E s₁ := by
  have K' := fa_of (loose := loose) (mean := mean) (p := p) K T hn hmg
  subst K'
  refine wpAny_mono (law_spec (items := vs.toArray) (k := 0) (ok_of K T hT) ho (by rw [hl]; decide) (ints_of hI) (by omega) (Nat.le_trans (by decide) htk) caller_room) (fun v s' r => fin_good h1 h2 K hT r hg) fun _ _ z => z
end
end

end Mine
end

section
open PySem.W.X PySem.W.ZRun
set_option maxRecDepth 100000 in
set_option maxHeartbeats 8000000 in
theorem PySem.Challenge.cw_bj5016_01_holds : PySem.Challenge.rw_bj5016_01.Holds := by
  w_on; o_law
  z_head
  case hw => w_witness2
  k_fill
  intro w s₀ s₁ mg mb G y fa o pm cd doc dV kV ho hd hcd hD hmg hg args vals as L hpre hlay hrd hwl hlo
  z_open y L KX ZH ZN ZT
  clear y
  refine Ground.open G ?_
  intro T B D TE TW
  wrow_args hpre hlay hrd hwl hlo
  obtain ⟨hat, hsz⟩ := script_at L
  have htk := script_toks L ZT
  rw [ZN] at hat
  have hT := Mine.tabs_of ZH (by kernel_rfl) (by kernel_rfl) (by kernel_rfl) (by kernel_rfl)
  have h1 : Mine.AllAt s₁.heap (Mine.KF w) [2, 3, 15, 17, 18, 20, 21, 22, 29, 30, 31, 32, 35, 42, 43, 44, 47, 54, 55, 56, 59, 67, 68, 70, 71, 73, 74, 75, 77, 78, 80, 81, 82, 84, 85, 87, 88, 89, 91, 92, 94, 95, 96, 97, 99, 100, 102, 103, 104, 105, 107, 108, 110, 111, 112, 114, 115, 117, 118, 119, 121, 122, 124, 125, 126, 128, 129, 131, 132, 133, 135, 136, 138, 139, 140, 142, 143, 145, 146, 147, 149, 150, 151, 152, 155, 157, 158, 160, 161, 162, 169, 171, 172, 174, 175, 176, 177, 178, 179, 181, 182, 184, 185, 186, 188, 189, 191, 192, 193, 195, 196, 198, 199, 200, 202, 203, 205, 206, 207, 209, 210, 212, 213, 214, 215, 217, 218, 220, 221, 222, 223, 225, 226, 228, 229, 230, 232, 233, 235, 236, 237, 238, 240, 241, 243, 244, 245, 247, 248, 250, 251, 252, 254, 255, 257, 258, 259, 261, 262, 264, 265, 266, 268, 269, 271, 272, 273, 275, 276, 278, 279, 280, 281, 283, 284, 286, 287, 288, 290, 291, 293, 294, 295, 297, 298, 300, 301, 302, 303, 304, 305, 307, 308, 310, 311, 312, 314, 315, 317, 318, 319, 321, 322, 324, 325, 326, 328, 329, 331, 332, 333, 334, 335, 336, 337, 340, 341, 343, 344, 346, 347, 348, 349, 351, 352, 354, 355, 356, 363, 364, 365, 366, 369, 371, 372, 374, 375, 376, 378, 379, 381, 382, 390, 391, 393, 394, 396, 397, 398, 400, 401, 403, 404, 405, 406, 407, 408, 410, 411, 413, 414, 415, 417, 418, 420, 421, 422, 424, 425, 427, 428, 429, 431, 432, 434, 435, 436, 438, 439, 441, 442, 443, 445, 446, 448, 449, 450, 452, 453, 455, 456, 457, 459, 460, 462, 463, 464, 466, 467, 469, 470, 471, 473, 474, 476, 477, 478, 480, 481, 483, 484, 485, 487, 488, 490, 491, 492, 493, 494, 495, 496, 499, 500, 502, 503, 505, 506, 507, 508, 510, 511, 513, 514, 515, 518, 519, 520, 523, 524, 525, 528, 529] := by
    repeat (first | exact trivial | refine ⟨Mine.at_of ZH (by kernel_rfl) (by kernel_rfl), ?_⟩)
  have K : (Mine.KF w).In s₁.heap := h1.isIn (by kernel_rfl)
  exact Mine.fin_law K T hT rfl hmg hg (script_obj L (by assumption)) (by assumption) hat (by assumption) htk (fun _ => rfl) (Mine.post_true _)
end
