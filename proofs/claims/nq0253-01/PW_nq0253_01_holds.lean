import PyProof.Rows.All
import Wide.All
import OpenK.AllK
import Wide.FinOn
import Lean
import PySem.Challenge.RW_nq0253_01
open PySem PySem.W PyProof.Rows PySem.Calls
set_option Elab.async false
set_option maxRecDepth 100000
set_option maxHeartbeats 1000000
set_option linter.unusedVariables false
namespace Mine
-- KK
section
local macro_rules | `(tactic| o_head $_) => `(tactic| assumption)
theorem kk : PySem.Challenge.rw_nq0253_01.row.Holds → PySem.Challenge.rw_nq0253_01.row.Holds := by
  intro h
  k_head
end
-- TL
abbrev pw : Program := PySem.Challenge.pw_nq0253_01

abbrev Loc := List (Str × Option Value)
def lookL (x : Str) (m : Loc) : Option Value := (m.lookup x).getD none
def setL (x : Str) (v : Value) : Loc → Loc
  | [] => [(x, some v)]
  | (y, u) :: r => if x == y then (y, some v) :: r else (y, u) :: setL x v r
theorem lookL_cons (x y : Str) (u : Option Value) (r : Loc) : lookL x ((y, u) :: r) = if x = y then u else lookL x r := by
  unfold lookL
  rw [List.lookup_cons]
  by_cases h : x = y
  · subst h; simp
  · have : (x == y) = false := by simpa using h
    rw [this]; simp [h]
theorem lookL_setL (x : Str) (v : Value) : ∀ (m : Loc) (y : Str), lookL y (setL x v m) = if y = x then some v else lookL y m
  | [], y => by rw [setL, lookL_cons]
  | (z, u) :: r, y => by
    unfold setL
    by_cases h : (x == z) = true
    · have hz : x = z := by simpa using h
      subst hz
      rw [if_pos h, lookL_cons, lookL_cons]
      by_cases hy : y = x <;> simp [hy]
    · rw [if_neg h, lookL_cons, lookL_cons, lookL_setL x v r y]
      have hz : x ≠ z := by simpa using h
      by_cases hy : y = z
      · subst hy; simp [Ne.symm hz]
      · simp [hy]

abbrev Led := List (Addr × Obj)

structure Cx where
  w : World
  A : Around
  h0 : Heap
  L : Addr
  sg : Shared
  outs : List (Addr × Obj)

noncomputable abbrev Cx.K (c : Cx) : Frag := kk.heap_1 c.w.params
abbrev Cx.s (c : Cx) (h : Heap) (tk : Nat) : Shared := { c.sg with heap := h, toks := tk }
abbrev Cx.M (c : Cx) : Model := model pw c.w

/-- the outer frames, up to their slots -/
def Outs (c : Cx) (led : Led) (h : Heap) : Prop := ∀ p ∈ c.outs, (∃ sl, h.get? p.1 = some { p.2 with slots := sl }) ∧ p.1 < c.L ∧ c.h0.get? p.1 = none ∧ p.1 ∉ led.map (·.1) ∧ ∀ vs, p.2.data ≠ .fields vs
structure Rep (c : Cx) (m : Loc) (led : Led) (h : Heap) : Prop where
  fr : Fr c.h0 c.L h (fun y => lookL y m)
  news : News c.h0 c.L h led
  nd : (led.map (·.1)).Nodup
  outs : Outs c led h
theorem Outs.go {c : Cx} {led led' : Led} {h h' : Heap} (x : Outs c led h) (hk : ∀ b o, b ≠ c.L → b ∉ led.map (·.1) → h.get? b = some o → h'.get? b = some o) (hl : ∀ b ∈ led'.map (·.1), b ∈ led.map (·.1) ∨ h.get? b = none) : Outs c led' h' := fun p hp => by
  obtain ⟨⟨sl, e⟩, h1, h2, h3, h4⟩ := x p hp
  refine ⟨⟨sl, hk _ _ (Nat.ne_of_lt h1) h3 e⟩, h1, h2, fun q => ?_, h4⟩
  rcases hl _ q with q | q
  · exact h3 q
  · rw [e] at q; cases q

inductive Post {α : Type} (c : Cx) (Q : α → Loc → Led → Prop) (v : α) (s' : Shared) : Prop
  | intro (m : Loc) (led : Led) (h : Heap) (tk : Nat) (e : s' = c.s h tk) (r : Rep c m led h) (q : Q v m led)

structure T {α : Type} (c : Cx) (m : Loc) (led : Led) (t : Sem α) (Q : α → Loc → Led → Prop) (X : Value → Loc → Led → Prop) : Prop where
  run : ∀ h tk, Rep c m led h → wpAny c.M c.A t (Post c Q) (Post c X) (c.s h tk)

def BM (h : Heap) : Prop := ∃ mg bm ob, h.Ns mainGlobals mg ∧ mg "__builtins__" = some (.ref bm) ∧ bm ≠ builtinsNs ∧ h.get? bm = some ob ∧ ob.cls = .type "module" ∧ ob.dict = some builtinsNs ∧ ob.data = .plain
theorem BM.keeps {h h' : Heap} (x : BM h) (k : ∀ b o, h.get? b = some o → h'.get? b = some o) : BM h' := let ⟨mg, bm, ob, a, b, c, d, e⟩ := x; ⟨mg, bm, ob, a.keeps k, b, c, k _ _ d, e⟩
/-- the frames around lie among the outer ones -/
def FrsOk (c : Cx) : Prop := ∃ envs, c.A.frames = some envs ∧ ∀ env ∈ envs, env.scope.kind ≠ .module ∧ ∃ f, env.frame = some f ∧ f ∈ c.L :: c.outs.map (·.1)
/-- what the ground gives -/
structure Gd (c : Cx) (n : Nat) : Prop where
  K : c.K.In c.h0
  lim : c.h0.NoLimit
  g : ∃ mg, c.h0.Ns mainGlobals mg
  b : ∃ mb, c.h0.Ns builtinsNs mb ∧ ∀ x : Str, x ≠ "__name__" → mb x = bootBuiltins x
  depth : c.A.depth + n < recursionLimit
  units : c.A.units + 20 * n < cLine
  hdl : c.A.handled = none
  bm : BM c.h0
  frs : FrsOk c

section
variable {α β : Type} {c : Cx} {m : Loc} {led : Led} {Q : α → Loc → Led → Prop} {X : Value → Loc → Led → Prop} {env : Env}

theorem T.mono {t : Sem α} {Q' : α → Loc → Led → Prop} (h : T c m led t Q X) (hQ : ∀ v m' l', Q v m' l' → Q' v m' l') : T c m led t Q' X := .mk fun hp tk R =>
  wpAny_mono (h.run hp tk R) (fun v s' ⟨m', l', h', tk', e, R', q⟩ => ⟨m', l', h', tk', e, R', hQ v m' l' q⟩) fun _ _ x => x
theorem T.noX {t : Sem α} (h : T c m led t Q (fun _ _ _ => False)) : T c m led t Q X := .mk fun hp tk R =>
  wpAny_mono (h.run hp tk R) (fun _ _ x => x) fun _ _ ⟨_, _, _, _, _, _, x⟩ => x.elim
theorem post_ok {v : α} {hp : Heap} {tk : Nat} (R : Rep c m led hp) (q : Q v m led) : Post c Q v (c.s hp tk) := ⟨m, led, hp, tk, rfl, R, q⟩
theorem T.pure {v : α} (h : Q v m led) : T c m led (pure v) Q X := .mk fun _ _ R => wpAny_pure (post_ok R h)
theorem then_wp {t : Sem α} {P : α → Shared → Prop} {E : Value → Shared → Prop} {s : Shared}
    (h : wpAny c.M c.A t (Post c Q) E s) (k : ∀ v m' l' h' tk', Rep c m' l' h' → Q v m' l' → P v (c.s h' tk')) : wpAny c.M c.A t P E s :=
  wpAny_mono h (fun v s' ⟨m', l', h', tk', e, R', q⟩ => by subst e; exact k v m' l' h' tk' R' q) fun _ _ x => x
theorem T.bind {t : Sem β} {f : β → Sem α} (h : T c m led t (fun v m' l' => T c m' l' (f v) Q X) X) : T c m led (t >>= f) Q X := .mk fun hp tk R =>
  wpAny_bind (then_wp (h.run hp tk R) fun _ _ _ _ _ R' q => q.run _ _ R')
/-- another ledger or other names that say less or the same -/
theorem T.weaken {t : Sem α} {m' : Loc} {led' : Led} (hm : ∀ y, lookL y m = lookL y m') (hl : led'.Sublist led) (h : T c m' led' t Q X) : T c m led t Q X := .mk fun hp tk R =>
  h.run hp tk ⟨(show (fun y => lookL y m) = fun y => lookL y m' from funext hm) ▸ R.fr, fun p hp => R.news p (hl.subset hp), (hl.map _).nodup R.nd, R.outs.go (fun _ _ _ _ e => e) fun b hb => .inl ((hl.map _).subset hb)⟩
theorem T.perm {t : Sem α} {led' : Led} (hl : led'.Perm led) (h : T c m led' t Q X) : T c m led t Q X := .mk fun hp tk R =>
  h.run hp tk ⟨R.fr, fun p hp => R.news p (hl.subset hp), (hl.map _).nodup_iff.mpr R.nd, R.outs.go (fun _ _ _ _ e => e) fun b hb => .inl ((hl.map _).subset hb)⟩

theorem T.execs_nil {Q : Flow → Loc → Led → Prop} (h : Q .next m led) : T c m led (execs [] env) Q X := .mk fun _ _ R => wpAny_execs_nil (post_ok R h)
theorem T.execs_cons {x : Stmt} {rest : List Stmt} {Q : Flow → Loc → Led → Prop} (h : T c m led (exec x env) (fun f m' l' => match f with | .next => T c m' l' (execs rest env) Q X | f => Q f m' l') X) :
    T c m led (execs (x :: rest) env) Q X := .mk fun hp tk R => wpAny_execs_cons (then_wp (h.run hp tk R) fun f _ _ h' tk' R' q => by
      cases f <;> first | exact q.run _ _ R' | exact post_ok R' q)
theorem T.assign {x : Str} {pos' pos : Pos} {value : Expr} {Q : Flow → Loc → Led → Prop} (hs : swapsWith value (some (.Name x pos')) pos.line env = Pure.pure false)
    (h : T c m led (eval value env) (fun v m' l' => T c m' l' (storeName env x v) (fun _ => Q .next) X) X) :
    T c m led (exec (.Assign [.Name x pos'] value pos) env) Q X := .mk fun hp tk R => wpAny_Assign_Name (then_wp (h.run hp tk R) fun _ _ _ _ _ R' q => then_wp (q.run _ _ R') fun _ _ _ _ _ R'' q' => post_ok R'' q') hs
theorem T.ret {e : Expr} {pos : Pos} {Q : Flow → Loc → Led → Prop} (h : T c m led (eval e env) (fun v => Q (.ret v)) X) : T c m led (exec (.Return (some e) pos) env) Q X := .mk fun hp tk R =>
  wpAny_Return_some (then_wp (h.run hp tk R) fun _ _ _ _ _ R' q => post_ok R' q)
theorem T.name {x : Str} {pos : Pos} {v : Value} {Q : Value → Loc → Led → Prop} (hk : env.scope.kind = .function) (hL : env.locals = c.L) (hl : env.kindOf x = some .local) (hd : (x == ("__debug__" : Str)) = false)
    (hv : lookL x m = some v) (h : Q v m led) : T c m led (eval (.Name x pos) env) Q X := .mk fun _ _ R =>
  wpAny_Name (wpAny_loadName_local hk hl (by rw [hL]; exact R.fr.ns) hv (post_ok R h)) hd
theorem T.int {i : Int} {k : Nat} {pos : Pos} {Q : Value → Loc → Led → Prop} (h : ∀ t, Q (.int i t) m led) : T c m led (eval (.Constant (.int i) k pos) env) Q X := .mk fun _ _ R => wpAny_Constant_int (post_ok R (h _))
theorem Rep.setm {x : Str} {v : Value} {hp h' : Heap} (R : Rep c m led hp) (hn : h'.Ns c.L (fun y => if y = x then some v else lookL y m)) (hs : Heap.SameBut c.L hp h') : Rep c (setL x v m) led h' := by
  refine ⟨?_, R.news.set hs, R.nd, R.outs.go (fun b x h1 _ e => hs.extBut b x h1 e) fun b hb => .inl hb⟩
  have : (fun y => lookL y (setL x v m)) = (fun y => if y = x then some v else lookL y m) := funext fun y => lookL_setL x v m y
  rw [this]
  exact R.fr.set hn hs
theorem T.store {x : Str} {v : Value} {Q : Unit → Loc → Led → Prop} (hk : env.scope.kind = .function) (hL : env.locals = c.L) (hl : env.kindOf x = some .local) (h : Q () (setL x v m) led) :
    T c m led (storeName env x v) Q X := .mk fun hp tk R =>
  wpAny_storeName_local hl (by rw [hL]; exact R.fr.ns) (fun h' hn hs => post_ok (R.setm (by rw [hL] at hn; exact hn) (by rw [hL] at hs; exact hs)) h)
    (by rw [hk]; rfl)
theorem T.binop {l r : Expr} {op : Operator} {pos : Pos} {Q : Value → Loc → Led → Prop} (h : T c m led (eval l env) (fun a m₁ l₁ => T c m₁ l₁ (eval r env) (fun b m₂ l₂ => T c m₂ l₂ (binaryOp op a b) Q X) X) X) :
    T c m led (eval (.BinOp l op r pos) env) Q X := .mk fun hp tk R => wpAny_BinOp (then_wp (h.run hp tk R) fun _ _ _ _ _ R₁ q₁ => then_wp (q₁.run _ _ R₁) fun _ _ _ _ _ R₂ q₂ => q₂.run _ _ R₂)
theorem T.compare {l r : Expr} {op : CmpOp} {pos : Pos} {Q : Value → Loc → Led → Prop} (hm : behindInMarks op r = false) (h : T c m led (eval l env) (fun a m₁ l₁ => T c m₁ l₁ (eval r env) (fun b m₂ l₂ => T c m₂ l₂ (compareOp op a b) Q X) X) X) :
    T c m led (eval (.Compare l [op] [r] pos) env) Q X := .mk fun hp tk R => wpAny_Compare1 (then_wp (h.run hp tk R) fun _ _ _ _ _ R₁ q₁ => then_wp (q₁.run _ _ R₁) fun _ _ _ _ _ R₂ q₂ => q₂.run _ _ R₂) hm
theorem T.test {l r : Expr} {op : CmpOp} {pos : Pos} {whole : Sem Value} {Q : Bool → Loc → Led → Prop} (hm : behindInMarks op r = false) (h : T c m led (eval l env) (fun a m₁ l₁ => T c m₁ l₁ (eval r env) (fun b m₂ l₂ => T c m₂ l₂ (compareOp op a b) (fun v m₃ l₃ => T c m₃ l₃ (truthy v) Q X) X) X) X) :
    T c m led (isTrue (.Compare l [op] [r] pos) env whole) Q X := .mk fun hp tk R => wpAny_isTrue_Compare1 (then_wp (h.run hp tk R) fun _ _ _ _ _ R₁ q₁ => then_wp (q₁.run _ _ R₁) fun _ _ _ _ _ R₂ q₂ => then_wp (q₂.run _ _ R₂) fun _ _ _ _ _ R₃ q₃ => q₃.run _ _ R₃) hm
theorem T.truthy_bool {b : Bool} {Q : Bool → Loc → Led → Prop} (h : Q b m led) : T c m led (truthy (.bool b)) Q X := .mk fun _ _ R => wpAny_truthy_bool (post_ok R h)
theorem T.ite {test : Expr} {body orelse : List Stmt} {pos : Pos} {Q : Flow → Loc → Led → Prop} (h : T c m led (isTrue test env (eval test env)) (fun b m₂ l₂ => if b = true then T c m₂ l₂ (execs body env) Q X else T c m₂ l₂ (execs orelse env) Q X) X) :
    T c m led (exec (.If test body orelse pos) env) Q X := .mk fun hp tk R => wpAny_If (then_wp (h.run hp tk R) fun b _ _ _ _ R₁ q₁ => by cases b <;> exact q₁.run _ _ R₁)
/-- the callee's ground -/
noncomputable def Cx.in (c : Cx) (h : Heap) (led : Led) (A : Around) : Cx := { c with A := A, h0 := hideAll h (c.L :: (c.outs.map (·.1) ++ led.map (·.1))), L := h.objs.size, outs := (c.L, (h.get? c.L).getD ⟨.none, none, .plain, #[]⟩) :: c.outs }
theorem h0_L {hp : Heap} (R : Rep c m led hp) : c.h0.get? c.L = none := Heap.get?_none_of_le R.fr.above
theorem hid_mem {hp : Heap} (R : Rep c m led hp) {b : Addr} {o : Obj} (e : c.h0.get? b = some o) : b ∉ c.L :: (c.outs.map (·.1) ++ led.map (·.1)) := fun q => by
  rcases List.mem_cons.mp q with rfl | q
  · rw [h0_L R] at e; cases e
  · rcases List.mem_append.mp q with q | q
    · obtain ⟨p, hp, rfl⟩ := List.mem_map.mp q
      rw [(R.outs p hp).2.2.1] at e; cases e
    · obtain ⟨p, hp, rfl⟩ := List.mem_map.mp q
      rw [(R.news p hp).2.2] at e; cases e
theorem stays {hp : Heap} (R : Rep c m led hp) : c.h0.StaysIn (hideAll hp (c.L :: (c.outs.map (·.1) ++ led.map (·.1)))) := fun b o e => hideAll_get _ (R.fr.keep b o e) (hid_mem R e)
theorem Ns_slots {h h' : Heap} {a : Addr} {f : Str → Option Value} {o : Obj} {sl : Array (Option Value)} (x : h.Ns a f) (e : h.get? a = some o) (e' : h'.get? a = some { o with slots := sl }) : h'.Ns a f := by
  obtain ⟨o2, es, ep, h1, h2, h3⟩ := x
  rw [e] at h1; cases h1
  exact ⟨_, es, ep, e', h2, h3⟩
/-- entering a frame -/
theorem Rep.enter {hp h₁ : Heap} {A : Around} {m' : Loc} (R : Rep c m led hp) (hns : h₁.Ns hp.objs.size fun y => lookL y m') (hk₁ : ∀ b o, hp.get? b = some o → h₁.get? b = some o) : Rep (c.in hp led A) m' led h₁ := by
  refine ⟨⟨hns, fun b o e => hk₁ b o (of_hideAll _ e), Nat.le_of_eq (hideAll_size _ _)⟩, fun p hp => ⟨hk₁ _ _ (R.news p hp).1, Nat.ne_of_lt (Heap.lt_size (R.news p hp).1), hideAll_none _ (.tail _ (List.mem_append_right _ (List.mem_map_of_mem hp)))⟩, R.nd, fun p hp' => ?_⟩
  rcases List.mem_cons.mp hp' with rfl | hp'
  · obtain ⟨oL, es, ep, hL, hLd, _⟩ := R.fr.ns
    have e1 : (hp.get? c.L).getD ⟨.none, none, .plain, #[]⟩ = oL := by rw [hL]; rfl
    refine ⟨⟨oL.slots, ?_⟩, Heap.lt_size hL, hideAll_none _ (.head _), fun q => ?_, fun vs => ?_⟩
    · show h₁.get? c.L = some { (hp.get? c.L).getD ⟨.none, none, .plain, #[]⟩ with slots := oL.slots }
      rw [e1]; exact hk₁ _ _ hL
    · obtain ⟨p, hp2, e⟩ := List.mem_map.mp q
      exact (R.news p hp2).2.1 e
    · show ((hp.get? c.L).getD ⟨.none, none, .plain, #[]⟩).data ≠ _
      rw [e1, hLd]; intro q; cases q
  · obtain ⟨⟨sl, e⟩, h1, h2, h3, h4⟩ := R.outs p hp'
    exact ⟨⟨sl, hk₁ _ _ e⟩, Heap.lt_size e, hideAll_none _ (.tail _ (List.mem_append_left _ (List.mem_map_of_mem hp'))), h3, h4⟩
/-- one frame more, or the same ones -/
def InFr (c : Cx) (A : Around) (hp : Heap) : Prop := A.frames = c.A.frames ∨ ∃ env, A.frames = c.A.frames.map (env :: ·) ∧ env.scope.kind ≠ .module ∧ env.frame = some hp.objs.size
theorem FrsOk.in {hp : Heap} {A : Around} (x : FrsOk c) (hf : InFr c A hp) : FrsOk (c.in hp led A) := by
  obtain ⟨envs, e, h⟩ := x
  have old : ∀ env ∈ envs, env.scope.kind ≠ .module ∧ ∃ f, env.frame = some f ∧ f ∈ (c.in hp led A).L :: (c.in hp led A).outs.map (·.1) := fun env he => by
    obtain ⟨h1, f, h2, h3⟩ := h env he
    refine ⟨h1, f, h2, .tail _ ?_⟩
    rcases List.mem_cons.mp h3 with rfl | h3
    · exact .head _
    · exact .tail _ h3
  rcases hf with hf | ⟨env, hf, h1, h2⟩
  · exact ⟨envs, hf.trans e, old⟩
  · refine ⟨env :: envs, by show A.frames = _; rw [hf, e]; rfl, fun env' he => ?_⟩
    rcases List.mem_cons.mp he with rfl | he
    · exact ⟨h1, _, h2, .head _⟩
    · exact old env' he
theorem Gd.in {n : Nat} {hp : Heap} {A : Around} (G : Gd c (n + 1)) (R : Rep c m led hp) (hd : A.depth ≤ c.A.depth + 1) (hu : A.units ≤ c.A.units + 20) (hh : A.handled = none) (hf : InFr c A hp) : Gd (c.in hp led A) n := by
  have k := stays R
  obtain ⟨mg, g⟩ := G.g
  obtain ⟨mb, b, bb⟩ := G.b
  have d1 := G.depth
  have u1 := G.units
  refine ⟨Frag.In.keeps G.K k, G.lim.keeps k, ⟨mg, g.keeps k⟩, ⟨mb, b.keeps k, bb⟩, ?_, ?_, hh, G.bm.keeps k, G.frs.in hf⟩
  · show A.depth + n < _; omega
  · show A.units + 20 * n < _; omega
/-- back from a call: the caller's state -/
theorem Rep.back {hp h' : Heap} {A : Around} {m' : Loc} {led' : Led} (R : Rep c m led hp) (R' : Rep (c.in hp led A) m' led' h') : Rep c m led' h' := by
  obtain ⟨oL, es, ep, hL, hLd, hLk⟩ := R.fr.ns
  have e1 : (hp.get? c.L).getD ⟨.none, none, .plain, #[]⟩ = oL := by rw [hL]; rfl
  obtain ⟨⟨sl, e2⟩, _, _, e5, _⟩ := R'.outs _ (.head _)
  have e2' : h'.get? c.L = some { (hp.get? c.L).getD ⟨.none, none, .plain, #[]⟩ with slots := sl } := e2
  rw [e1] at e2'
  have keep' : ∀ b o, c.h0.get? b = some o → h'.get? b = some o := fun b o e => R'.fr.keep _ _ (stays R b o e)
  refine ⟨⟨Ns_slots ⟨oL, es, ep, hL, hLd, hLk⟩ hL e2', keep', R.fr.above⟩, fun p hp => ⟨(R'.news p hp).1, fun q => ?_, ?_⟩, R'.nd, fun p hp => ?_⟩
  · refine e5 ?_
    show c.L ∈ led'.map (·.1)
    rw [← q]; exact List.mem_map_of_mem hp
  · cases q : c.h0.get? p.1 with
    | none => rfl
    | some o =>
      have h1 := (R'.news p hp).2.2
      have h2 : (c.in _ led A).h0.get? p.1 = some o := stays R _ _ q
      rw [h1] at h2; cases h2
  · obtain ⟨a1, a2, a3, a4, a5⟩ := R.outs p hp
    obtain ⟨b1, b2, b3, b4, b5⟩ := R'.outs p (.tail _ hp)
    exact ⟨b1, a2, a3, b4, a5⟩
/-- the ground with all that lies below the frame -/
noncomputable def full (hp : Heap) (L : Addr) (led : Led) : Heap := hideAll { hp with objs := hp.objs.extract 0 L } (led.map (·.1))
theorem cut_get {hp : Heap} {L b : Nat} : ({ hp with objs := hp.objs.extract 0 L } : Heap).get? b = if b < L then hp.get? b else none := by
  unfold Heap.get?
  by_cases hb : b < L
  · rw [if_pos hb]
    have : (hp.objs.extract 0 L)[b]? = hp.objs[b]? := by
      rw [Array.getElem?_extract]
      by_cases hs : b < hp.objs.size
      · rw [if_pos (by omega), Nat.zero_add]
      · rw [if_neg (by omega), Array.getElem?_eq_none (by omega)]
    simp only [this]
  · rw [if_neg hb]
    have : (hp.objs.extract 0 L)[b]? = none := by
      rw [Array.getElem?_extract, if_neg (by omega)]
    simp only [this]
theorem full_get {hp : Heap} {L b : Addr} {led : Led} {o : Obj} (h : hp.get? b = some o) (hb : b < L) (hn : b ∉ led.map (·.1)) : (full hp L led).get? b = some o := hideAll_get _ (by rw [cut_get, if_pos hb]; exact h) hn
theorem of_full {hp : Heap} {L b : Addr} {led : Led} {o : Obj} (h : (full hp L led).get? b = some o) : hp.get? b = some o := by
  have := of_hideAll _ h
  rw [cut_get] at this
  split at this
  · exact this
  · cases this
theorem full_sub {hp : Heap} (R : Rep c m led hp) : ∀ b o, c.h0.get? b = some o → (full hp c.L led).get? b = some o := fun b o e =>
  full_get (R.fr.keep b o e) (Nat.lt_of_lt_of_le (Heap.lt_size e) R.fr.above) fun q => hid_mem R e (.tail _ (List.mem_append_right _ q))
theorem full_fr {hp : Heap} (R : Rep c m led hp) : Fr (full hp c.L led) c.L hp fun y => lookL y m := ⟨R.fr.ns, fun _ _ e => of_full e, by
  unfold full
  rw [hideAll_size]
  show (hp.objs.extract 0 c.L).size ≤ c.L
  simp; omega⟩
theorem full_news {hp : Heap} (R : Rep c m led hp) : News (full hp c.L led) c.L hp led := fun p hp => ⟨(R.news p hp).1, (R.news p hp).2.1, hideAll_none _ (List.mem_map_of_mem hp)⟩
/-- back from the full ground -/
theorem Rep.of_full {hp h' : Heap} {m' : Loc} {led' : Led} (R : Rep c m led hp) (F : Fr (full hp c.L led) c.L h' fun y => lookL y m') (N : News (full hp c.L led) c.L h' led') (nd : (led'.map (·.1)).Nodup) : Rep c m' led' h' := by
  refine ⟨⟨F.ns, fun b o e => F.keep _ _ (full_sub R b o e), R.fr.above⟩, fun p hp => ⟨(N p hp).1, (N p hp).2.1, ?_⟩, nd, fun p hp => ?_⟩
  · cases q : c.h0.get? p.1 with
    | none => rfl
    | some o =>
      have := full_sub R _ _ q
      rw [(N p hp).2.2] at this; cases this
  · obtain ⟨⟨sl, e⟩, a2, a3, a4, a5⟩ := R.outs p hp
    have e2 := full_get e a2 a4
    refine ⟨⟨sl, F.keep _ _ e2⟩, a2, a3, fun q => ?_, a5⟩
    obtain ⟨p2, hp2, e3⟩ := List.mem_map.mp q
    have := (N p2 hp2).2.2
    rw [show p2.1 = p.1 from e3, e2] at this; cases this
theorem Rep.perm {hp : Heap} {l' : Led} (R : Rep c m led hp) (h : l'.Perm led) : Rep c m l' hp := ⟨R.fr, fun p hp => R.news p (h.subset hp), (h.map _).nodup_iff.mpr R.nd, R.outs.go (fun _ _ _ _ e => e) fun b hb => .inl ((h.map _).subset hb)⟩
/-- a call of a def of the text, without cells -/
theorem T.call0 {n : Nat} {Q : Value → Loc → Led → Prop} {name qual : Str} {params : Arguments} {body : List Stmt} {scope : Scope} {dV kV doc pm cdv ct oc : Value} {an od : Option Addr} {osl : Array (Option Value)} {f : Addr} {args : List Value} {binds : List (Str × Value)} {m' : Loc}
    (G : Gd c (n + 1)) (ho : c.K.lookup f = some ⟨oc, od, .func (fnOf name qual params body scope dV kV doc pm an cdv ct), osl⟩) (hcd : codeIn c.K cdv qual = true)
    (hbind : bindArgs (fnOf name qual params body scope dV kV doc pm an cdv ct) ⟨args, []⟩ = Pure.pure binds) (hloc : (binds.all fun x => decide (scope.names.lookup x.1 = some .local)) = true)
    (hm : ∀ y, lookL y m' = binds.reverse.lookup y)
    (hco : scope.isCoroutine = false) (hgen : scope.isGenerator = false) (hk : scope.kind = .function) (hcell : (scope.names.all fun x => x.2 != .cell) = true)
    (h : ∀ c' : Cx, c'.w = c.w → Gd c' n → T c' m' led (execs body (envOf qual scope c'.L f cdv)) (fun fl _ l' => Q (match fl with | .ret v => v | _ => .none) m l') (fun _ _ _ => False)) :
    T c m led (call (.ref f) args) Q X := .mk fun hp tk R => by
  have kp : ∀ b o, c.h0.get? b = some o → hp.get? b = some o := R.fr.keep
  have hX : c.K.In hp := Frag.In.keeps G.K kp
  have d1 := G.depth
  refine wpAny_call (codeAny_call_def (fd := fnOf name qual params body scope dV kV doc pm an cdv ct) (body := body) (binds := binds) (by omega) (hX _ _ ho) rfl (G.lim.keeps kp) (codeRec_of hX hcd) rfl (BindsTo.of_eq hbind)
    (fun x hx => by have := List.all_eq_true.mp hcell x hx; simpa using this) (locs hloc) (fun h₁ hns hk₁ => ?_) hco hgen hk)
  have e1 : callEnv (fnOf name qual params body scope dV kV doc pm an cdv ct) hp.objs.size f = envOf qual scope hp.objs.size f cdv := rfl
  rw [e1]
  have hh := h (c.in hp led (c.A.deeper (envOf qual scope hp.objs.size f cdv))) rfl (G.in R (Nat.le_refl _) (by show c.A.units + 3 ≤ _; omega) G.hdl (.inr ⟨envOf qual scope hp.objs.size f cdv, rfl, (by show scope.kind ≠ _; rw [hk]; intro q; cases q), rfl⟩))
  have R₁ : Rep (c.in hp led (c.A.deeper (envOf qual scope hp.objs.size f cdv))) m' led h₁ := by
    refine R.enter ?_ hk₁
    have : (fun y => lookL y m') = fun y => binds.reverse.lookup y := funext hm
    rw [this]; exact hns
  refine wpAny_mono (hh.run h₁ (tk + binds.length) R₁) (fun fl s' ⟨m₂, l₂, h', tk', e, R', q⟩ => ?_) fun _ _ ⟨_, _, _, _, _, _, x⟩ => x.elim
  subst e
  exact ⟨_, _, h', tk', rfl, R.back R', q⟩
def bindsOf (m : Loc) : List (Str × Value) := m.filterMap fun p => p.2.map fun v => (p.1, v)
def okM : Loc → Bool
  | [] => true
  | p :: r => r.all (fun q => !(p.1 == q.1)) && okM r
theorem lookup_filter (y : Str) : ∀ (m : Loc), okM m = true → (bindsOf m).lookup y = lookL y m
  | [], _ => rfl
  | (x, u) :: r, h => by
    unfold okM at h
    rw [Bool.and_eq_true] at h
    have ih := lookup_filter y r h.2
    rw [lookL_cons]
    by_cases hy : y = x
    · subst hy
      rw [if_pos rfl]
      cases u with
      | some v => show List.lookup y ((y, v) :: bindsOf r) = _; simp [List.lookup_cons]
      | none =>
        show List.lookup y (bindsOf r) = _
        rw [List.lookup_eq_none_iff]
        intro p hp
        unfold bindsOf at hp
        obtain ⟨q, hq, e⟩ := List.mem_filterMap.mp hp
        have := List.all_eq_true.mp h.1 q hq
        cases hq2 : q.2 with
        | none => rw [hq2] at e; cases e
        | some v => rw [hq2] at e; cases e; simpa using this
    · rw [if_neg hy, ← ih]
      cases u with
      | some v => show List.lookup y ((x, v) :: bindsOf r) = _; rw [List.lookup_cons]; have : (y == x) = false := by simpa using hy
                  rw [this]
      | none => rfl
theorem lookup_reverse_nodup {β : Type} (y : Str) : ∀ (l : List (Str × β)), (l.map (·.1)).Nodup → l.reverse.lookup y = l.lookup y
  | [], _ => rfl
  | (x, v) :: r, h => by
    rw [List.map_cons, List.nodup_cons] at h
    have ih := lookup_reverse_nodup y r h.2
    rw [List.reverse_cons, List.lookup_append, ih, List.lookup_cons]
    by_cases hy : y = x
    · subst hy
      have : r.lookup y = none := by
        rw [List.lookup_eq_none_iff]
        intro p hp
        have : y ≠ p.1 := fun e => h.1 (by rw [e]; exact List.mem_map_of_mem (f := (·.1)) hp)
        simpa using this
      rw [this]; simp [List.lookup_cons]
    · have : (y == x) = false := by simpa using hy
      rw [this, List.lookup_cons, this]; simp
theorem bindsOf_nodup : ∀ (m : Loc), okM m = true → ((bindsOf m).map (·.1)).Nodup
  | [], _ => List.nodup_nil
  | (x, u) :: r, h => by
    unfold okM at h
    rw [Bool.and_eq_true] at h
    have ih := bindsOf_nodup r h.2
    cases u with
    | none => exact ih
    | some v =>
      show ((x, v) :: bindsOf r |>.map (·.1)).Nodup
      rw [List.map_cons, List.nodup_cons]
      refine ⟨fun hm => ?_, ih⟩
      obtain ⟨p, hp, e⟩ := List.mem_map.mp hm
      unfold bindsOf at hp
      obtain ⟨q, hq, e2⟩ := List.mem_filterMap.mp hp
      have := List.all_eq_true.mp h.1 q hq
      cases hq2 : q.2 with
      | none => rw [hq2] at e2; cases e2
      | some v => rw [hq2] at e2; cases e2; simp at e; subst e; simp at this
/-- a part of the ledger, in some order -/
def Sub (l' l : Led) : Prop := ∃ k, l'.Perm k ∧ k.Sublist l
theorem Sub.refl (l : Led) : Sub l l := ⟨l, .refl _, .refl _⟩
theorem Sub.cons {l' l : Led} {p : Addr × Obj} (h : Sub l' l) : Sub l' (p :: l) := let ⟨k, a, b⟩ := h; ⟨k, a, b.cons _⟩
theorem Sub.app {l' l g : Led} (h : Sub l' l) : Sub l' (g ++ l) := let ⟨k, a, b⟩ := h; ⟨k, a, b.trans (List.sublist_append_right _ _)⟩
theorem Sub.perm {l' l l₂ : Led} (h : Sub l' l) (hp : l.Perm l₂) : Sub l' l₂ := by
  obtain ⟨k, a, b⟩ := h
  obtain ⟨k₂, c, d⟩ := List.exists_perm_sublist b hp
  exact ⟨k₂, a.trans c.symm, d⟩
theorem Rep.sub {hp : Heap} {l' : Led} (R : Rep c m led hp) (h : Sub l' led) : Rep c m l' hp := by
  obtain ⟨k, a, b⟩ := h
  exact ⟨R.fr, fun p hp => R.news p (b.subset (a.subset hp)), (a.map _).nodup_iff.mpr ((b.map _).nodup R.nd), R.outs.go (fun _ _ _ _ e => e) fun x hx => .inl ((b.map _).subset ((a.map _).subset hx))⟩
theorem T.part {t : Sem α} {l' : Led} (h : Sub l' led) (k : T c m l' t Q X) : T c m led t Q X := .mk fun hp tk R => k.run hp tk (R.sub h)
theorem T.back {t : Sem α} (h : T c m led t (fun v m' l' => ∃ l'', Sub l'' l' ∧ Q v m' l'') X) : T c m led t Q X := .mk fun hp tk R =>
  wpAny_mono (h.run hp tk R) (fun v s' ⟨m', l', h', tk', e, R', l'', hs, q⟩ => ⟨m', l'', h', tk', e, R'.sub hs, q⟩) fun _ _ x => x
theorem T.def {n : Nat} {Q : Value → Loc → Led → Prop} {name qual : Str} {params : Arguments} {body : List Stmt} {scope : Scope} {dV kV doc pm cdv ct oc : Value} {an od : Option Addr} {osl : Array (Option Value)} {f : Addr} {args : List Value} (m' : Loc)
    (G : Gd c (n + 1)) (ho : c.K.lookup f = some ⟨oc, od, .func (fnOf name qual params body scope dV kV doc pm an cdv ct), osl⟩) (hcd : codeIn c.K cdv qual = true)
    (hbind : bindArgs (fnOf name qual params body scope dV kV doc pm an cdv ct) ⟨args, []⟩ = Pure.pure (bindsOf m'))
    (hok : (okM m' && ((bindsOf m').all fun x => decide (scope.names.lookup x.1 = some .local)) && !scope.isCoroutine && !scope.isGenerator && (scope.names.all fun x => x.2 != .cell)) = true) (hk : scope.kind = .function)
    (h : ∀ c' : Cx, c'.w = c.w → Gd c' n → T c' m' led (execs body (envOf qual scope c'.L f cdv)) (fun fl _ l' => ∃ l'', Sub l'' l' ∧ Q (match fl with | .ret v => v | _ => .none) m l'') (fun _ _ _ => False)) :
    T c m led (call (.ref f) args) Q X := by
  refine T.back ?_
  simp only [Bool.and_eq_true, Bool.not_eq_true'] at hok
  obtain ⟨⟨⟨⟨h1, h2⟩, h3⟩, h4⟩, h5⟩ := hok
  exact T.call0 G ho hcd hbind h2 (fun y => by rw [lookup_reverse_nodup _ _ (bindsOf_nodup m' h1), lookup_filter y m' h1]) h3 h4 hk h5 h
/-- a while: an invariant with a measure -/
theorem T.while {test : Expr} {body : List Stmt} {pos : Pos} {Q : Flow → Loc → Led → Prop} (J : Nat → Loc → Led → Prop) (n₀ : Nat) (hJ : J n₀ m led)
    (turn : ∀ n m₁ l₁, J n m₁ l₁ → T c m₁ l₁ (isTrue test env (eval test env)) (fun b m₂ l₂ =>
      if b = true then T c m₂ l₂ (execs body env) (fun f m₃ l₃ => match f with | .next | .cont => ∃ n', n' < n ∧ J n' m₃ l₃ | .brk => Q .next m₃ l₃ | .ret v => Q (.ret v) m₃ l₃) (fun _ _ _ => False) else Q .next m₂ l₂) (fun _ _ _ => False)) :
    T c m led (exec (.While test body [] pos) env) Q X := .mk fun hp tk R => by
  refine wpAny_mono (Q := Post c Q) (E := fun _ _ => False) ?_ (fun _ _ x => x) fun _ _ x => x.elim
  refine wpAny_While (codeAny_whileLoop (fun n s' => ∃ m₁ l₁ h₁ tk₁, s' = c.s h₁ tk₁ ∧ Rep c m₁ l₁ h₁ ∧ J n m₁ l₁) ?_ n₀ ⟨m, led, hp, tk, rfl, R, hJ⟩)
  rintro n s' ⟨m₁, l₁, h₁, tk₁, rfl, R₁, J₁⟩
  have noX : ∀ (v : Value) (s' : Shared), Post c (fun _ _ _ => False) v s' → False := fun v s' ⟨_, _, _, _, _, _, x⟩ => x
  refine wpAny_mono ((turn n m₁ l₁ J₁).run h₁ tk₁ R₁) (fun b s₂ ⟨m₂, l₂, h₂, tk₂, e, R₂, q₂⟩ => ?_) fun _ _ x => (noX _ _ x).elim
  subst e
  cases b with
  | false => simp only [Bool.false_eq_true, if_false] at q₂ ⊢; exact wpAny_execs_nil (post_ok R₂ q₂)
  | true =>
    simp only [if_true] at q₂ ⊢
    refine wpAny_mono (q₂.run h₂ tk₂ R₂) (fun f s₃ ⟨m₃, l₃, h₃, tk₃, e, R₃, q₃⟩ => ?_) fun _ _ x => (noX _ _ x).elim
    subst e
    cases f with
    | next => obtain ⟨n', hn, j⟩ := q₃; exact ⟨n', hn, m₃, l₃, h₃, tk₃, rfl, R₃, j⟩
    | cont => obtain ⟨n', hn, j⟩ := q₃; exact ⟨n', hn, m₃, l₃, h₃, tk₃, rfl, R₃, j⟩
    | brk => exact post_ok R₃ q₃
    | ret v => exact post_ok R₃ q₃
end
abbrev Hid {α : Type} (Q Q' : α → Loc → Led → Prop) : Prop := ∀ v m l, Q v m l → Q' v m l
abbrev seqQ (c : Cx) (rest : List Stmt) (env : Env) (Q : Flow → Loc → Led → Prop) (X : Value → Loc → Led → Prop) : Flow → Loc → Led → Prop := fun f m l => match f with | .next => T c m l (execs rest env) Q X | f => Q f m l
section
variable {α : Type} {c : Cx} {m : Loc} {led : Led} {X : Value → Loc → Led → Prop}
theorem T.hide {t : Sem α} {Q : α → Loc → Led → Prop} (h : ∀ Q' : α → Loc → Led → Prop, Hid Q Q' → T c m led t Q' X) : T c m led t Q X := h Q fun _ _ _ x => x
theorem T.execs_cons2 {x : Stmt} {rest : List Stmt} {env : Env} {Q : Flow → Loc → Led → Prop} (h : ∀ Qb, Hid Q Qb → ∀ Qs, Hid (seqQ c rest env Qb X) Qs → T c m led (exec x env) Qs X) :
    T c m led (execs (x :: rest) env) Q X := T.hide fun Qb hb => T.execs_cons (h Qb hb _ fun f _ _ q => by cases f <;> exact q)
variable {rest : List Stmt} {env : Env} {Q : Flow → Loc → Led → Prop}
theorem seq_next (h : T c m led (execs rest env) Q X) : seqQ c rest env Q X .next m led := h
theorem seq_brk (h : Q .brk m led) : seqQ c rest env Q X .brk m led := h
theorem seq_cont (h : Q .cont m led) : seqQ c rest env Q X .cont m led := h
theorem seq_ret {v : Value} (h : Q (.ret v) m led) : seqQ c rest env Q X (.ret v) m led := h
end
-- HeadW
def looseN : List Str := (["_wall", "Entry", "merge_entries", "_NODE_OUT", "_NODE_DONE", "_NodeInfo", "CycleError", "TopologicalSorter", "S_IMODE", "S_IFMT", "S_IFDIR", "S_IFCHR", "S_IFBLK", "S_IFREG", "S_IFIFO", "S_IFLNK", "S_IFSOCK", "S_ISDIR", "S_ISUID", "S_ISGID", "S_ISVTX", "S_IRUSR", "S_IWUSR", "S_IXUSR", "S_IRGRP", "S_IWGRP", "S_IXGRP", "S_IROTH", "S_IWOTH", "S_IXOTH", "_filemode_table", "filemode", "_law_tree", "_law_paths", "_law_rule", "_law_record", "_law_verdict", "_law_run", "_law_signs", "_law_climbed", "_law_depth", "_law_rounds", "_law_modes_right"] : List String).map Str.ofString
noncomputable def asK : List Addr := [2, 3, 15, 17, 18, 20, 21, 29, 31, 32, 34, 35, 36, 38, 39, 41, 42, 43, 45, 46, 48, 49, 50, 52, 53, 55, 56, 57, 58, 59, 60, 61, 64, 66, 67, 69, 70, 78, 79, 81, 82, 84, 85, 86, 88, 89, 90, 91, 92, 95, 102, 103, 104, 105, 115, 116, 118, 119, 121, 122, 123, 125, 126, 128, 129, 130, 132, 133, 135, 136, 137, 140, 141, 142, 144, 145, 147, 148, 149, 151, 152, 154, 155, 156, 158, 159, 161, 162, 163, 165, 166, 168, 169, 170, 172, 173, 175, 176, 177, 179, 180, 182, 183, 184, 185, 186, 187, 188, 191, 193, 194, 196, 197, 198, 200, 201, 203, 204, 205, 207, 208, 210, 211, 212, 213, 214, 215, 216, 217, 218, 219, 220, 221, 222, 223, 224, 225, 226, 227, 228, 229, 230, 231, 232, 233, 234, 235, 236, 237, 238, 239, 240, 241, 242, 243, 244, 245, 247, 248, 250, 251, 252, 254, 255, 257, 258, 259, 261, 262, 264, 265, 266, 268, 269, 271, 272, 273, 275, 276, 278, 279, 280, 282, 283, 285, 286, 287, 290, 291, 292, 294, 295, 297, 298, 299, 302, 303, 304, 306, 307, 309, 310, 311, 314, 315, 316, 318, 319, 321, 322, 323, 326, 327]
noncomputable def topHook : Hook := kmHook kk.heap_1 asK (fun _ => by kernel_rfl) [267]
set_option maxHeartbeats 0 in
theorem left1 : LeftO pw (view pw [47]) looseN (fun _ => true) (Hook.obs topHook) (Hook.val topHook) 4606 := by intro w; kernel_rfl
theorem saidRow : PySem.Challenge.rw_nq0253_01.row.wellSaid = true := by
  delta OpenRow.wellSaid OpenRow.partSaid looksOpen
  repeat' (with_reducible refine look_both ?_ ?_)
  all_goals decide +kernel
theorem said : PySem.Challenge.rw_nq0253_01.wellSaid = true := by
  delta OpenLaw.wellSaid
  repeat' (with_reducible first | exact saidRow | refine look_both ?_ ?_)
  all_goals decide +kernel
theorem promised : PySem.Challenge.rw_nq0253_01.row.toRowW.promised := by w_witness2
theorem bare : PySem.Challenge.rw_nq0253_01.row.prog.bare := ⟨rfl, rfl, rfl, rfl, rfl, by decide +kernel⟩
-- TR
abbrev lst (vs : List Value) (n : Nat) : Obj := { cls := .type "list", data := .seq vs.toArray n }
abbrev tup (vs : List Value) : Obj := { cls := .type "tuple", data := .seq vs.toArray 0 }
section
variable {c : Cx} {m : Loc} {led : Led} {X : Value → Loc → Led → Prop} {env : Env} {Q : Value → Loc → Led → Prop} {a b : Int} {t u : Tok}
theorem T.add (h : ∀ t, Q (.int (a + b) t) m led) : T c m led (binaryOp .Add (.int a t) (.int b u)) Q X := .mk fun hp tk R => add_int (post_ok (tk := tk + 1) R (h _))
theorem T.sub (h : ∀ t, Q (.int (a - b) t) m led) : T c m led (binaryOp .Sub (.int a t) (.int b u)) Q X := .mk fun hp tk R => sub_int (post_ok (tk := tk + 1) R (h _))
theorem T.mod (hb : b ≠ 0) (h : ∀ t, Q (.int (a.fmod b) t) m led) : T c m led (binaryOp .Mod (.int a t) (.int b u)) Q X := .mk fun hp tk R => mod_int' hb (post_ok (tk := tk + 1) R (h _))
theorem T.fdiv (hb : b ≠ 0) (hp : Builtin.divisionGoesByPylong a b = false) (h : ∀ t, Q (.int (a.fdiv b) t) m led) : T c m led (binaryOp .FloorDiv (.int a t) (.int b u)) Q X := .mk fun _ tk R => floordiv_int hb (post_ok (tk := tk + 1) R (h _)) (.inl hp)
theorem T.mul (hm : IntMulOk a b) (h : ∀ t, Q (.int (a * b) t) m led) : T c m led (binaryOp .Mult (.int a t) (.int b u)) Q X := .mk fun hp tk R => mul_int (post_ok (tk := tk + 1) R (h _)) hm
theorem T.and (h : ∀ t, Q (.int (Builtin.bitAnd a b) t) m led) : T c m led (binaryOp .BitAnd (.int a t) (.int b u)) Q X := .mk fun hp tk R => and_int (post_ok (tk := tk + 1) R (h _))
theorem T.iadd (h : ∀ t, Q (.int (a + b) t) m led) : T c m led (inplaceOp .Add (.int a t) (.int b u)) Q X := .mk fun hp tk R => iadd_int (post_ok (tk := tk + 1) R (h _))
theorem T.eq (h : Q (.bool (a == b)) m led) : T c m led (compareOp .Eq (.int a t) (.int b u)) Q X := .mk fun hp tk R => eq_int (post_ok R h)
theorem T.ne (h : Q (.bool (a != b)) m led) : T c m led (compareOp .NotEq (.int a t) (.int b u)) Q X := .mk fun hp tk R => ne_int (post_ok R h)
theorem T.lt (h : Q (.bool (decide (a < b))) m led) : T c m led (compareOp .Lt (.int a t) (.int b u)) Q X := .mk fun hp tk R => lt_int (post_ok R h)
theorem T.gt (h : Q (.bool (decide (b < a))) m led) : T c m led (compareOp .Gt (.int a t) (.int b u)) Q X := .mk fun hp tk R => gt_int (post_ok R h)
theorem Rep.get {hp : Heap} {x : Addr} {o : Obj} (R : Rep c m led hp) (hm : (x, o) ∈ led) : hp.get? x = some o := (R.news _ hm).1
theorem Rep.isList {hp : Heap} {x : Addr} {vs : List Value} {n : Nat} (R : Rep c m led hp) (hm : (x, lst vs n) ∈ led) : hp.IsList x vs.toArray := ⟨_, R.get hm, rfl, n, rfl⟩
theorem T.sub_script {value slice : Expr} {pos : Pos} (h : T c m led (eval value env) (fun o m₁ l₁ => T c m₁ l₁ (eval slice env) (fun i m₂ l₂ => T c m₂ l₂ (subscriptTail value slice o i) Q X) X) X) :
    T c m led (eval (.Subscript value slice pos) env) Q X := .mk fun hp tk R => Subscript_ (then_wp (h.run hp tk R) fun _ _ _ _ _ R₁ q₁ => then_wp (q₁.run _ _ R₁) fun _ _ _ _ _ R₂ q₂ => q₂.run _ _ R₂)
theorem T.item {value slice : Expr} {l : Addr} {vs : List Value} {n : Nat} {k : Int} {v : Value} (hm : (l, lst vs n) ∈ led) (h0 : 0 ≤ k) (hf : k < 2 ^ 63) (hv : vs[k.toNat]? = some v)
    (hs : subscripted slice false (.ref l) (.int k u) = operate [.ref l, .int k u] (getItem (.ref l) (.int k u))) (h : Q v m led) : T c m led (subscriptTail value slice (.ref l) (.int k u)) Q X := .mk fun hp tk R =>
  tail_any (R.isList hm).typeIs slot_list_getitem.lookup (wpAny_getItem_list (R.isList hm) h0 hf (by simpa using hv) (post_ok R h)) hs
theorem T.global {n : Nat} {x : Str} {pos : Pos} {v : Value} (G : Gd c n) (e : nsIn c.K mainGlobals x = some (some v)) (hg : env.globals = mainGlobals) (hk : env.scope.kind = .function) (hx : env.kindOf x = some .globalImplicit) (hd : (x == ("__debug__" : Str)) = false)
    (h : Q v m led) : T c m led (eval (.Name x pos) env) Q X := .mk fun hp tk R => by
  obtain ⟨mg, g⟩ := G.g
  exact Name_function_global hk hx (loadGlobal_global (env := env) (by rw [hg]; exact g.keeps R.fr.keep) (mg_of G.K g e) (post_ok R h)) hd
def plainArgs (env : Env) : List Expr → List (Bool × Sem Value)
  | [] => []
  | e :: r => (false, eval e env) :: plainArgs env r
theorem plainArgs_any (env : Env) : ∀ es, (plainArgs env es).any (·.1) = false
  | [] => rfl
  | e :: r => by show (false || (plainArgs env r).any (·.1)) = false; rw [plainArgs_any env r]; rfl
theorem T.call_name {x : Str} {p pos : Pos} {args : List Expr} (ht : backTo pos (starEach args env) = plainArgs env args)
    (h : T c m led (eval (.Name x p) env) (fun f m₁ l₁ => T c m₁ l₁ (callWith pos f [] (plainArgs env args) []) Q X) X) : T c m led (eval (.Call (.Name x p) args [] pos) env) Q X := .mk fun hp tk R =>
  Call_Name ht (then_wp (h.run hp tk R) fun _ _ _ _ _ R₁ q₁ => q₁.run _ _ R₁)
/-- arguments one by one, then the call -/
theorem T.snil {Q : List Value → Loc → Led → Prop} (h : Q [] m led) : T c m led (spliced (plainArgs env [])) Q X := .mk fun hp tk R => PySem.Calls.spliced_nil (post_ok R h)
theorem T.scons {e : Expr} {rest : List Expr} {Q : List Value → Loc → Led → Prop} (h : T c m led (eval e env) (fun v m₁ l₁ => T c m₁ l₁ (spliced (plainArgs env rest)) (fun vs m₂ l₂ => Q (v :: vs) m₂ l₂) X) X) : T c m led (spliced (plainArgs env (e :: rest))) Q X := .mk fun hp tk R =>
  PySem.Calls.spliced_cons (then_wp (h.run hp tk R) fun _ _ _ _ _ R₁ q₁ => then_wp (q₁.run _ _ R₁) fun _ _ _ _ _ R₂ q₂ => post_ok R₂ q₂)
theorem evalArgs_p {f : Value} {es : List Expr} {Q : Args → Shared → Prop} {E : Value → Shared → Prop} {s : Shared} {M : Model} {A : Around}
    (h : wpAny M A (spliced (plainArgs env es)) (fun vs s' => Q ⟨vs, []⟩ s') E s) : wpAny M A (evalArgs f true (plainArgs env es) []) Q E s := by
  cases es with
  | nil =>
    unfold evalArgs
    show wpAny M A (spliced (plainArgs env []) >>= _) Q E s
    refine wpAny_bind (wpAny_mono h (fun vs s' h' => ?_) fun _ _ x => x)
    refine wpAny_bind (wpAny_pure ?_)
    refine wpAny_holding ?_
    exact wpAny_bind (wpAny_pure (wpAny_bind (wpAny_pure (wpAny_pure h'))))
  | cons e r => exact evalArgs_plain h
theorem T.cw {n : Nat} {f : Value} {first : List Value} {pos : Pos} {es : List Expr} (G : Gd c n) (hk : keepIn c.K f = true)
    (h : T c m led (spliced (plainArgs env es)) (fun vs m₁ l₁ => T c m₁ l₁ (PySem.call f (first ++ vs)) Q X) X) : T c m led (callWith pos f first (plainArgs env es) []) Q X := .mk fun hp tk R =>
  callWith_of (by rw [plainArgs_any]; rfl) (keeps_K hk) (evalArgs_p (then_wp (h.run hp tk R) fun _ _ _ _ _ R₁ q₁ => ⟨Frag.In.keeps G.K R₁.fr.keep, q₁.run _ _ R₁⟩))
end
-- TF
abbrev NoX : Value → Loc → Led → Prop := fun _ _ _ => False
structure TC (c : Cx) (m : Loc) (led : Led) (code : Code) (Q : Flow → Loc → Led → Prop) : Prop where
  run : ∀ h tk, Rep c m led h → codeAny c.M c.A code (fun r s' => match r with | .ok f => Post c Q f s' | .error _ => False) (c.s h tk)
section
variable {c : Cx} {m : Loc} {led l : Led} {X : Value → Loc → Led → Prop} {env : Env} {Q : Flow → Loc → Led → Prop}
theorem T.for {target iter : Expr} {body orelse : List Stmt} {pos : Pos} (hs : ∀ x, foldedSetIterable iter env x = Pure.pure x)
    (h : T c m led (eval iter env) (fun v m₁ l₁ => T c m₁ l₁ (pyIter v) (fun it m₂ l₂ => TC c m₂ l₂ (.forLoop target it body orelse env) Q) X) X) : T c m led (exec (.For target iter body orelse pos) env) Q X := .mk fun hp tk R =>
  wpAny_For (then_wp (h.run hp tk R) fun _ _ _ _ _ R₁ q₁ => then_wp (q₁.run _ _ R₁) fun _ _ _ _ _ R₂ q₂ => codeAny_mono (q₂.run _ _ R₂) fun r s' x => by
    cases r with
    | ok f => exact x
    | error e => exact x.elim) hs
/-- what the ledger or the ground holds -/
def roOk (c : Cx) (l : Led) (ro : Led) : Prop := ∀ p ∈ ro, p ∈ l ∨ c.h0.get? p.1 = some p.2
theorem Rep.ro {hp : Heap} {ro : Led} (R : Rep c m led hp) (h : roOk c led ro) : ∀ p ∈ ro, hp.get? p.1 = some p.2 := fun p hp => (h p hp).elim (fun x => (R.news p x).1) fun x => R.fr.keep _ _ x
/-- an iterator at the ledger's head -/
structure Iter (c : Cx) (I : Addr) (n : Nat) (P : Nat → Value → Prop) (ro : Led) (S : Nat → Obj → Prop) : Prop where
  item : ∀ i o m l (Q : Option Value → Loc → Led → Prop) X, i < n → S i o → roOk c l ro → (∀ v o', P i v → S (i + 1) o' → Q (some v) m ((I, o') :: l)) → T c m ((I, o) :: l) (pyNext (.ref I)) Q X
  done : ∀ o m l (Q : Option Value → Loc → Led → Prop) X, S n o → roOk c l ro → Q none m l → T c m ((I, o) :: l) (pyNext (.ref I)) Q X
  self : ∀ i o m l (Q : Value → Loc → Led → Prop) X, S i o → roOk c l ro → Q (.ref I) m ((I, o) :: l) → T c m ((I, o) :: l) (pyIter (.ref I)) Q X
  plain : ∀ i o, S i o → ∃ nm, o.cls = .type nm ∧ ["enumerate", "zip", "dict_itemiterator", "dict_reverseitemiterator", "odict_iterator", "itertools.zip_longest", "itertools.pairwise"].contains nm = false
theorem Rep.head {hp h' : Heap} {I : Addr} {o o' : Obj} (R : Rep c m ((I, o) :: l) hp) (hn : h'.get? I = some o') (hk : ∀ b x, b ≠ I → hp.get? b = some x → h'.get? b = some x) : Rep c m ((I, o') :: l) h' := by
  have hI := R.news (I, o) (.head _)
  have hnd := R.nd
  simp only [List.map_cons, List.nodup_cons] at hnd
  obtain ⟨oL, es, ep, hL, r⟩ := R.fr.ns
  refine ⟨⟨⟨oL, es, ep, hk _ _ (fun e => hI.2.1 e.symm) hL, r⟩, fun b x e => hk b x (fun q => ?_) (R.fr.keep b x e), R.fr.above⟩, fun p hp => ?_, by simpa using hnd, R.outs.go (fun b x _ h2 e => hk b x (fun q => h2 (by rw [q]; exact .head _)) e) fun b hb => .inl hb⟩
  · have := hI.2.2; rw [← q, e] at this; cases this
  · rcases List.mem_cons.mp hp with rfl | hp
    · exact ⟨hn, hI.2⟩
    · have := R.news p (.tail _ hp)
      exact ⟨hk _ _ (fun e => hnd.1 (by rw [← e]; exact List.mem_map_of_mem hp)) this.1, this.2⟩
theorem Rep.tail {hp h' : Heap} {I : Addr} {o : Obj} (R : Rep c m ((I, o) :: l) hp) (hk : ∀ b x, b ≠ I → hp.get? b = some x → h'.get? b = some x) : Rep c m l h' := by
  have hI := R.news (I, o) (.head _)
  have hnd := R.nd
  simp only [List.map_cons, List.nodup_cons] at hnd
  obtain ⟨oL, es, ep, hL, r⟩ := R.fr.ns
  refine ⟨⟨⟨oL, es, ep, hk _ _ (fun e => hI.2.1 e.symm) hL, r⟩, fun b x e => hk b x (fun q => ?_) (R.fr.keep b x e), R.fr.above⟩, fun p hp => ?_, hnd.2, R.outs.go (fun b x _ h2 e => hk b x (fun q => h2 (by rw [q]; exact .head _)) e) fun b hb => .inl (.tail _ hb)⟩
  · have := hI.2.2; rw [← q, e] at this; cases this
  · have := R.news p (.tail _ hp)
    exact ⟨hk _ _ (fun e => hnd.1 (by rw [← e]; exact List.mem_map_of_mem hp)) this.1, this.2⟩
theorem Iter.of_walks {I : Addr} {fp : List Addr} {n : Nat} {P : Nat → Value → Prop} {St : Nat → Heap → Prop} {ro : Led} (W : Walks pw c.w c.A I fp [I] n P St)
    (hfp : ∀ b ∈ fp, b = I ∨ ∃ o, (b, o) ∈ ro) (hro : ∀ p ∈ ro, p.1 ≠ I) (hcl : ∀ i h, St i h → ∃ o nm, h.get? I = some o ∧ o.cls = .type nm ∧ ["enumerate", "zip", "dict_itemiterator", "dict_reverseitemiterator", "odict_iterator", "itertools.zip_longest", "itertools.pairwise"].contains nm = false) :
    Iter c I n P ro (fun i o => (∃ nm, o.cls = .type nm ∧ ["enumerate", "zip", "dict_itemiterator", "dict_reverseitemiterator", "odict_iterator", "itertools.zip_longest", "itertools.pairwise"].contains nm = false) ∧ ∀ h, h.get? I = some o → (∀ p ∈ ro, h.get? p.1 = some p.2) → St i h) where
  item := fun i o m l Q X hi S hr h => .mk fun hp tk R => by
    have st := S.2 hp (R.news (I, o) (.head _)).1 (fun p hq => (hr p hq).elim (fun x => (R.news p (.tail _ x)).1) fun x => R.fr.keep _ _ x)
    refine W.item i _ _ _ hi st fun v h' tk' hP st' hk => ?_
    have hk' : ∀ b x, b ≠ I → hp.get? b = some x → h'.get? b = some x := fun b x hb e => hk b x (by simpa using hb) e
    obtain ⟨o', nm, ho', hc, hn⟩ := hcl _ _ st'
    refine ⟨m, (I, o') :: l, h', tk', rfl, R.head ho' hk', h v o' hP ⟨⟨nm, hc, hn⟩, fun h'' e1 e2 => W.frame _ h' h'' st' fun b hb o e => ?_⟩⟩
    rcases hfp b hb with rfl | ⟨ob, hm⟩
    · rw [ho'] at e; cases e; exact e1
    · have h1 := (hr _ hm).elim (fun x => (R.news _ (.tail _ x)).1) fun x => R.fr.keep _ _ x
      rw [hk' b ob (hro _ hm) h1] at e; cases e
      exact e2 _ hm
  done := fun o m l Q X S hr h => .mk fun hp tk R => by
    have st := S.2 hp (R.news (I, o) (.head _)).1 (fun p hq => (hr p hq).elim (fun x => (R.news p (.tail _ x)).1) fun x => R.fr.keep _ _ x)
    refine W.done _ _ _ st fun h' tk' hk => ?_
    exact ⟨m, l, h', tk', rfl, R.tail fun b x hb e => hk b x (by simpa using hb) e, h⟩
  self := fun i o m l Q X S hr h => .mk fun hp tk R => by
    have st := S.2 hp (R.news (I, o) (.head _)).1 (fun p hq => (hr p hq).elim (fun x => (R.news p (.tail _ x)).1) fun x => R.fr.keep _ _ x)
    exact W.self i _ _ _ st (post_ok R h)
  plain := fun i o S => S.1
theorem lotg_plain {target : Expr} {I : Addr} {o : Obj} {v : Value} {Q : Unit → Loc → Led → Prop} (ho : ∃ nm, o.cls = .type nm ∧ ["enumerate", "zip", "dict_itemiterator", "dict_reverseitemiterator", "odict_iterator", "itertools.zip_longest", "itertools.pairwise"].contains nm = false)
    (h : Q () m ((I, o) :: l)) : T c m ((I, o) :: l) (letOwnedTupleGo target (.ref I) v) Q X := .mk fun hp tk R => by
  obtain ⟨nm, hc, hn⟩ := ho
  have pn : ∀ {t : Sem Unit}, t = Pure.pure () → wpAny c.M c.A t (Post c Q) (Post c X) (c.s hp tk) := fun e => by rw [e]; exact wpAny_pure (post_ok R h)
  have go : ∀ (a : Addr), wpAny c.M c.A (do let o ← load I; match o.cls, o.data with
      | .type n, .fields vs => if ["enumerate", "zip", "dict_itemiterator", "dict_reverseitemiterator", "odict_iterator", "itertools.zip_longest", "itertools.pairwise"].contains n && vs[0]? == some (rawInt a) then do rule "for.unpacks-the-owned-tuple"; updateField I 0 .none else Pure.pure ()
      | _, _ => Pure.pure ()) (Post c Q) (Post c X) (c.s hp tk) := fun a => by
    refine wpAny_bind (wpAny_load (R.news (I, o) (.head _)).1 ?_)
    rw [hc]
    cases hd : o.data <;> first | exact wpAny_pure (post_ok R h) | (simp only [hn, Bool.false_and, Bool.false_eq_true, if_false]; exact wpAny_pure (post_ok R h))
  unfold letOwnedTupleGo
  cases target <;> first | exact wpAny_pure (post_ok R h) | (cases v <;> first | exact wpAny_pure (post_ok R h) | exact go _)
theorem TC.for {I : Addr} {n : Nat} {P : Nat → Value → Prop} {ro : Led} {S : Nat → Obj → Prop} {o₀ : Obj} {target : Expr} {body orelse : List Stmt} (W : Iter c I n P ro S) (h0 : S 0 o₀) (J : Nat → Loc → Led → Prop)
    (hro : ∀ i m₁ l₁, J i m₁ l₁ → roOk c l₁ ro) (hJ : J 0 m l)
    (turn : ∀ i v o m₁ l₁, i < n → P i v → J i m₁ l₁ → T c m₁ ((I, o) :: l₁) (assign target env v) (fun _ m₃ l₃ => T c m₃ l₃ (execs body env) (fun f m₄ l₄ => match f with
      | .next | .cont => ∃ l', ((I, o) :: l').Perm l₄ ∧ J (i + 1) m₄ l' | .brk => Q .next m₄ l₄ | .ret v => Q (.ret v) m₄ l₄) NoX) NoX)
    (done : ∀ m₁ l₁, J n m₁ l₁ → T c m₁ l₁ (execs orelse env) Q NoX) :
    TC c m ((I, o₀) :: l) (.forLoop target (.ref I) body orelse env) Q := .mk fun hp tk R => by
  have noX : ∀ {v : Value} {s' : Shared} {P : Prop}, Post c NoX v s' → P := fun ⟨_, _, _, _, _, _, x⟩ => x.elim
  refine codeAny_forLoop_any (fun k s' => ∃ i m₁ l₁ o₁ h₁ tk₁, s' = c.s h₁ tk₁ ∧ Rep c m₁ ((I, o₁) :: l₁) h₁ ∧ S i o₁ ∧ J i m₁ l₁ ∧ i ≤ n ∧ k = n + 1 - i) ?_ (n + 1) ⟨0, m, l, o₀, hp, tk, rfl, R, h0, hJ, Nat.zero_le _, rfl⟩
  rintro k s' ⟨i, m₁, l₁, o₁, h₁, tk₁, rfl, R₁, S₁, J₁, hi, rfl⟩
  by_cases hlt : i < n
  · have q := W.item i o₁ m₁ l₁ (fun r m₂ l₂ => ∃ v o', r = some v ∧ P i v ∧ S (i + 1) o' ∧ m₂ = m₁ ∧ l₂ = (I, o') :: l₁) NoX hlt S₁ (hro _ _ _ J₁) (fun v o' hP hS => ⟨v, o', rfl, hP, hS, rfl, rfl⟩) |>.run h₁ tk₁ R₁
    refine wpAny_mono q (fun r s₂ ⟨m₂, l₂, h₂, tk₂, e, R₂, v, o', hr, hP, hS, hm, hl⟩ => ?_) fun _ _ x => noX x
    subst e hr hm hl
    have q2 := lotg_plain (c := c) (m := m₂) (l := l₁) (I := I) (target := target) (v := v) (X := NoX) (Q := fun _ m₃ l₃ => m₃ = m₂ ∧ l₃ = (I, o') :: l₁) (W.plain _ _ hS) ⟨rfl, rfl⟩ |>.run h₂ tk₂ R₂
    refine wpAny_mono q2 (fun _ s₃ ⟨m₃, l₃, h₃, tk₃, e, R₃, hm, hl⟩ => ?_) fun _ _ x => noX x
    subst e hm hl
    refine wpAny_mono ((turn i v o' m₃ l₁ hlt hP J₁).run h₃ tk₃ R₃) (fun _ s₄ ⟨m₄, l₄, h₄, tk₄, e, R₄, q₄⟩ => ?_) fun _ _ x => noX x
    subst e
    refine wpAny_mono (q₄.run h₄ tk₄ R₄) (fun f s₅ ⟨m₅, l₅, h₅, tk₅, e, R₅, q₅⟩ => ?_) fun _ _ x => noX x
    subst e
    have nx : (∃ l', ((I, o') :: l').Perm l₅ ∧ J (i + 1) m₅ l') → ∃ m, m < n + 1 - i ∧ ∃ i m₁ l₁ o₁ h₁ tk₁, c.s h₅ tk₅ = c.s h₁ tk₁ ∧ Rep c m₁ ((I, o₁) :: l₁) h₁ ∧ S i o₁ ∧ J i m₁ l₁ ∧ i ≤ n ∧ m = n + 1 - i := fun ⟨l', hpm, j⟩ =>
      ⟨n + 1 - (i + 1), by omega, i + 1, m₅, l', o', h₅, tk₅, rfl, R₅.perm hpm, hS, j, hlt, rfl⟩
    cases f with
    | next => exact nx q₅
    | cont => exact nx q₅
    | brk => exact post_ok R₅ q₅
    | ret v => exact post_ok R₅ q₅
  · have hin : i = n := by omega
    subst hin
    have q := W.done o₁ m₁ l₁ (fun r m₂ l₂ => r = none ∧ m₂ = m₁ ∧ l₂ = l₁) NoX S₁ (hro _ _ _ J₁) ⟨rfl, rfl, rfl⟩ |>.run h₁ tk₁ R₁
    refine wpAny_mono q (fun r s₂ ⟨m₂, l₂, h₂, tk₂, e, R₂, hr, hm, hl⟩ => ?_) fun _ _ x => noX x
    subst e hr hm hl
    exact wpAny_mono ((done m₂ l₂ J₁).run h₂ tk₂ R₂) (fun f s₃ x => x) fun _ _ x => noX x
end
-- TB
inductive Bring {α : Type} (x : α) : List α → List α → Prop
  | head {l : List α} : Bring x (x :: l) l
  | tail {y : α} {l l' : List α} : Bring x l l' → Bring x (y :: l) (y :: l')
theorem Bring.perm {α : Type} {x : α} {l l' : List α} (b : Bring x l l') : (x :: l').Perm l := by
  induction b with
  | head => exact .refl _
  | tail _ ih => exact (List.Perm.swap _ _ _).trans (ih.cons _)
theorem perm_by {α : Type} {x : α} {l l' r : List α} (b : Bring x l l') (h : r.Perm l') : (x :: r).Perm l := (h.cons x).trans b.perm
inductive Up (a : Addr) (o o' : Obj) : Led → Led → Prop
  | head {r : Led} : Up a o o' ((a, o) :: r) ((a, o') :: r)
  | tail {p : Addr × Obj} {r r' : Led} : Up a o o' r r' → Up a o o' (p :: r) (p :: r')
theorem Up.mem {a : Addr} {o o' : Obj} {l l' : Led} (u : Up a o o' l l') : (a, o) ∈ l := by
  induction u with
  | head => exact .head _
  | tail _ ih => exact .tail _ ih
theorem Up.keys {a : Addr} {o o' : Obj} {l l' : Led} (u : Up a o o' l l') : l'.map (·.1) = l.map (·.1) := by
  induction u with
  | head => rfl
  | tail _ ih => rw [List.map_cons, List.map_cons, ih]
theorem Up.old {a : Addr} {o o' : Obj} {l l' : Led} (u : Up a o o' l l') (nd : (l.map (·.1)).Nodup) : ∀ p ∈ l', p = (a, o') ∨ (p ∈ l ∧ p.1 ≠ a) := by
  induction u with
  | head =>
    intro p hp
    simp only [List.map_cons, List.nodup_cons] at nd
    rcases List.mem_cons.mp hp with rfl | hp
    · exact .inl rfl
    · exact .inr ⟨.tail _ hp, fun e => nd.1 (by rw [← e]; exact List.mem_map_of_mem hp)⟩
  | @tail q r r' u ih =>
    intro p hp
    simp only [List.map_cons, List.nodup_cons] at nd
    rcases List.mem_cons.mp hp with rfl | hp
    · refine .inr ⟨.head _, fun e => nd.1 ?_⟩
      rw [e]; exact List.mem_map_of_mem (f := (·.1)) u.mem
    · rcases ih nd.2 p hp with h | ⟨h1, h2⟩
      · exact .inl h
      · exact .inr ⟨.tail _ h1, h2⟩
section
variable {c : Cx} {m : Loc} {led l : Led} {X : Value → Loc → Led → Prop} {env : Env} {Q : Value → Loc → Led → Prop}
theorem Rep.up {hp h' : Heap} {a : Addr} {o o' : Obj} {led' : Led} (R : Rep c m led hp) (u : Up a o o' led led') (hn : h'.get? a = some o') (hk : ∀ b x, b ≠ a → hp.get? b = some x → h'.get? b = some x) : Rep c m led' h' := by
  have hI := R.news (a, o) u.mem
  obtain ⟨oL, es, ep, hL, r⟩ := R.fr.ns
  refine ⟨⟨⟨oL, es, ep, hk _ _ (fun e => hI.2.1 e.symm) hL, r⟩, fun b x e => hk b x (fun q => ?_) (R.fr.keep b x e), R.fr.above⟩, fun p hp => ?_, by rw [u.keys]; exact R.nd, R.outs.go (fun b x _ h2 e => hk b x (fun q => h2 (by rw [q]; exact List.mem_map_of_mem (f := (·.1)) u.mem)) e) fun b hb => .inl (by rw [← u.keys]; exact hb)⟩
  · have := hI.2.2; rw [← q, e] at this; cases this
  · rcases u.old R.nd p hp with rfl | ⟨h1, h2⟩
    · exact ⟨hn, hI.2⟩
    · exact ⟨hk _ _ h2 (R.news p h1).1, (R.news p h1).2⟩
theorem Rep.push {hp : Heap} (R : Rep c m led hp) (o : Obj) (hf : o.isFreed = false) : Rep c m ((hp.objs.size, o) :: led) (hp.push o) := by
  refine ⟨R.fr.push o, R.news.push R.fr o hf, ?_, R.outs.go (fun b x _ _ e => Heap.get?_push_of_some _ e) fun b hb => ?_⟩
  rotate_left
  · rcases List.mem_cons.mp hb with rfl | hb
    · exact .inr (Heap.get?_none_of_le (Nat.le_refl _))
    · exact .inl hb
  rw [List.map_cons, List.nodup_cons]
  refine ⟨fun hm => ?_, R.nd⟩
  obtain ⟨p, hp, e⟩ := List.mem_map.mp hm
  have := Heap.lt_size (R.news p hp).1
  rw [e] at this
  exact absurd this (Nat.lt_irrefl _)
theorem Rep.ext {hp h' : Heap} (R : Rep c m led hp) (hx : Heap.ExtBut hp.objs.size hp h') : Rep c m led h' := by
  have hk : ∀ b o, hp.get? b = some o → h'.get? b = some o := fun b o e => hx b o (Nat.ne_of_lt (Heap.lt_size e)) e
  obtain ⟨oL, es, ep, hL, r⟩ := R.fr.ns
  exact ⟨⟨⟨oL, es, ep, hk _ _ hL, r⟩, fun b o e => hk _ _ (R.fr.keep b o e), R.fr.above⟩, fun p hp => ⟨hk _ _ (R.news p hp).1, (R.news p hp).2⟩, R.nd, R.outs.go (fun b x _ _ e => hk b x e) fun b hb => .inl hb⟩
/-- a list display, a tuple display -/
theorem T.list {elts : List Expr} {pos : Pos} (ht : backTo pos (starEach elts env) = plainArgs env elts) (h : T c m led (spliced (plainArgs env elts)) (fun vs m₁ l₁ => vs.length ≤ sizeLine ∧ ∀ a, Q (.ref a) m₁ ((a, lst vs 0) :: l₁)) X) : T c m led (eval (.List elts pos) env) Q X := .mk fun hp tk R =>
  wpAny_List_spliced (by rw [ht]; exact then_wp (h.run hp tk R) fun _ _ _ _ _ R₁ q₁ => ⟨q₁.1, post_ok (R₁.push _ rfl) (q₁.2 _)⟩)
theorem T.tuple {elts : List Expr} {x1 : Nat} {pos : Pos} (ht : backTo pos (starEach elts env) = plainArgs env elts) (h : T c m led (spliced (plainArgs env elts)) (fun vs m₁ l₁ => vs.length ≤ sizeLine ∧ ∀ a, Q (.ref a) m₁ ((a, tup vs) :: l₁)) X) : T c m led (eval (.Tuple elts x1 pos) env) Q X := .mk fun hp tk R =>
  wpAny_Tuple_spliced (by rw [ht]; exact then_wp (h.run hp tk R) fun _ _ _ _ _ R₁ q₁ => ⟨q₁.1, post_ok (R₁.push _ rfl) (q₁.2 _)⟩)
theorem T.append {x : Addr} {vs : List Value} {n : Nat} {v : Value} {led' : Led} (u : Up x (lst vs n) (lst (vs ++ [v]) (n + 1)) led led') (hsz : vs.length ≤ sizeLine) (h : Q .none m led') : T c m led (call (.builtin "list.append") [.ref x, v]) Q X := .mk fun hp tk R =>
  append_at (hsz := by simpa using hsz) (R.news _ u.mem).1 fun h' hs ho' => ⟨m, led', h', tk, rfl, R.up u (by simpa using ho') (fun b x hb e => (hs.2 b hb).trans e), h⟩
def mPl (o : Expr) (env : Env) : Sem Bool := do return (← importBound o env).getD true
theorem T.mcall {o : Expr} {name : Str} {apos pos : Pos} {args : List Expr} (ht : backTo pos (starEach args env) = plainArgs env args)
    (he : eval (.Call (.Attribute o name apos) args [] pos) env = (do
      let ov ← eval o env
      standAt apos.atName
      let (f, first) ← holding [ov] (getMethod ov name (mPl o env))
      callWith pos f first (backTo pos (starEach args env)) []))
    (h : T c m led (eval o env) (fun ov m₁ l₁ => T c m₁ l₁ (getMethod ov name (mPl o env)) (fun fx m₂ l₂ => T c m₂ l₂ (callWith pos fx.1 fx.2 (plainArgs env args) []) Q X) X) X) : T c m led (eval (.Call (.Attribute o name apos) args [] pos) env) Q X := .mk fun hp tk R =>
  MethodCall_ (by rw [ht]; exact then_wp (h.run hp tk R) fun _ _ _ _ _ R₁ q₁ => then_wp (q₁.run _ _ R₁) fun _ _ _ _ _ R₂ q₂ => q₂.run _ _ R₂) he
theorem T.cwb {id : String} {first : List Value} {pos : Pos} {es : List Expr}
    (h : T c m led (spliced (plainArgs env es)) (fun vs m₁ l₁ => T c m₁ l₁ (PySem.call (.builtin id) (first ++ vs)) Q X) X) : T c m led (callWith pos (.builtin id) first (plainArgs env es) []) Q X := .mk fun hp tk R =>
  Calls.callWith_builtin (plainArgs_any env es) (evalArgs_p (then_wp (h.run hp tk R) fun _ _ _ _ _ R₁ q₁ => q₁.run _ _ R₁))
theorem T.cwt {id : String} {first : List Value} {pos : Pos} {es : List Expr}
    (h : T c m led (spliced (plainArgs env es)) (fun vs m₁ l₁ => T c m₁ l₁ (PySem.call (.type id) (first ++ vs)) Q X) X) : T c m led (callWith pos (.type id) first (plainArgs env es) []) Q X := .mk fun hp tk R =>
  PyProof.Rows.callWith_type (plainArgs_any env es) (evalArgs_p (then_wp (h.run hp tk R) fun _ _ _ _ _ R₁ q₁ => q₁.run _ _ R₁))
theorem T.list_method {name : Str} {id : String} {pl : Sem Bool} {x : Addr} {vs : List Value} {n : Nat} {Q : Value × List Value → Loc → Led → Prop} (hm : (x, lst vs n) ∈ led) (slot : Slot "list" name id) (hty : typeOf (.builtin id) = Pure.pure (.type "method_descriptor"))
    (h : Q (.builtin id, [.ref x]) m led) : T c m led (getMethod (.ref x) name pl) Q X := .mk fun hp tk R =>
  getMethod_list_of slot hty (R.isList hm) ⟨_, R.get hm, rfl⟩ (post_ok R h)
theorem T.expr {e : Expr} {pos : Pos} {Q : Flow → Loc → Led → Prop} (hi : interactive env = false) (hs : swapsWith e none pos.line env = Pure.pure false) (h : T c m led (eval e env) (fun _ => Q .next) X) : T c m led (exec (.Expr e pos) env) Q X := .mk fun hp tk R =>
  wpAny_Expr_any (then_wp (h.run hp tk R) fun _ _ _ _ _ R₁ q₁ => post_ok R₁ q₁) hi hs
theorem T.asName {x : Str} {pos : Pos} {v : Value} {Q : Unit → Loc → Led → Prop} (h : T c m led (storeName env x v) Q X) : T c m led (PySem.assign (.Name x pos) env v) Q X := .mk fun hp tk R => wpAny_assign_Name (h.run hp tk R)
theorem T.asTup {elts : List Expr} {x1 : Nat} {pos : Pos} {t : Addr} {vs : List Value} {fs : List (Value → Sem Unit)} {Q : Unit → Loc → Led → Prop} (hh : c.A.handled = none) (ht : roOk c led [(t, tup vs)]) (hn : (assignEach elts env).length = vs.length) (hstar : (assignEach elts env).findIdx? (·.1) = none) (hf : (assignEach elts env).map (·.2) = fs)
    (h : T c m led (assignInOrder fs vs) Q X) : T c m led (PySem.assign (.Tuple elts x1 pos) env (.ref t)) Q X := .mk fun hp tk R =>
  wpAny_assign_Tuple (s := c.s hp tk) (items := vs.toArray) hh ⟨_, R.ro ht _ (.head _), rfl, _, rfl⟩ (by simpa using hn) hstar fun h' hx => by rw [hf]; exact h.run h' tk (R.ext hx)
theorem T.inOrder {f : Value → Sem Unit} {fs : List (Value → Sem Unit)} {v : Value} {vs : List Value} {Q : Unit → Loc → Led → Prop} (h : T c m led (f v) (fun _ m₁ l₁ => T c m₁ l₁ (assignInOrder fs vs) Q X) X) : T c m led (assignInOrder (f :: fs) (v :: vs)) Q X := .mk fun hp tk R => by
  show wpAny _ _ (do holding vs (f v); assignInOrder fs vs) _ _ _
  exact wpAny_bind (wpAny_holding (then_wp (h.run hp tk R) fun _ _ _ _ _ R₁ q₁ => q₁.run _ _ R₁))
theorem T.inOrder0 {Q : Unit → Loc → Led → Prop} (h : Q () m led) : T c m led (assignInOrder [] []) Q X := .mk fun hp tk R => wpAny_pure (post_ok R h)
/-- an iterator over a list -/
theorem T.iter_list {Q : Value → Loc → Led → Prop} {x : Addr} {vs : List Value} {n : Nat} (hh : c.A.handled = none) (hx : roOk c led [(x, lst vs n)])
    (h : ∀ I o S, Iter c I vs.length (fun i v => vs[i]? = some v) [(x, lst vs n)] S → S 0 o → Q (.ref I) m ((I, o) :: led)) : T c m led (pyIter (.ref x)) Q X := .mk fun hp tk R => by
  have ho : hp.get? x = some (lst vs n) := R.ro hx _ (.head _)
  have hne : x ≠ hp.objs.size := Nat.ne_of_lt (Heap.lt_size ho)
  refine wpAny_pyIter_list ⟨_, ho, rfl, n, rfl⟩ ?_
  have W := Walks.list (prog := pw) (w := c.w) (A := c.A) hh hp.objs.size x hne vs.toArray
  simp only [List.size_toArray, List.getElem?_toArray] at W
  have It := Iter.of_walks (c := c) (ro := [(x, lst vs n)]) W (by intro b hb; simp at hb; rcases hb with h | h; exact .inl h; exact .inr ⟨_, by rw [h]; exact .head _⟩) (by intro p hp; simp at hp; subst hp; exact hne)
    (fun i h st => by obtain ⟨⟨o, h1, h2, _⟩, _⟩ := st; exact ⟨o, _, h1, h2, by decide⟩)
  exact post_ok (R.push _ rfl) (h _ _ _ It ⟨⟨_, rfl, by decide⟩, fun h' e1 e2 => ⟨⟨_, e1, rfl, rfl⟩, ⟨_, e2 _ (.head _), rfl, n, rfl⟩⟩⟩)
theorem T.iter_tup {Q : Value → Loc → Led → Prop} {x : Addr} {vs : List Value} (hh : c.A.handled = none) (hx : roOk c led [(x, tup vs)])
    (h : ∀ I o S, Iter c I vs.length (fun i v => vs[i]? = some v) [(x, tup vs)] S → S 0 o → Q (.ref I) m ((I, o) :: led)) : T c m led (pyIter (.ref x)) Q X := .mk fun hp tk R => by
  have ho : hp.get? x = some (tup vs) := R.ro hx _ (.head _)
  have hne : x ≠ hp.objs.size := Nat.ne_of_lt (Heap.lt_size ho)
  refine wpAny_pyIter_tuple ⟨_, ho, rfl, 0, rfl⟩ ?_
  have W := Walks.tuple (prog := pw) (w := c.w) (A := c.A) hh hp.objs.size x hne vs.toArray
  simp only [List.size_toArray, List.getElem?_toArray] at W
  have It := Iter.of_walks (c := c) (ro := [(x, tup vs)]) W (by intro b hb; simp at hb; rcases hb with h | h; exact .inl h; exact .inr ⟨_, by rw [h]; exact .head _⟩) (by intro p hp; simp at hp; subst hp; exact hne)
    (fun i h st => by obtain ⟨⟨o, h1, h2, _⟩, _⟩ := st; exact ⟨o, _, h1, h2, by decide⟩)
  exact post_ok (R.push _ rfl) (h _ _ _ It ⟨⟨_, rfl, by decide⟩, fun h' e1 e2 => ⟨⟨_, e1, rfl, rfl⟩, ⟨_, e2 _ (.head _), rfl, 0, rfl⟩⟩⟩)
end
-- TE
section
variable {prog : Program} {w : World} {A : Around} {E : Value → Shared → Prop} {s : Shared}
theorem tupNext_item {it t : Addr} {i : Nat} {items : Array Value} {x : Value} {Q : Value → Shared → Prop} (hit : s.heap.IsTupleIter it t i) (ht : s.heap.IsTuple t items) (hx : items[i]? = some x)
    (hQ : ∀ h', h'.IsTupleIter it t (i + 1) → Heap.SameBut it s.heap h' → Q x { s with heap := h' }) : wpAny (model prog w) A (Builtin.SmallTypes.nextOf (.ref it)) Q E s := by
  obtain ⟨o, ho, hc, hd⟩ := id hit
  obtain ⟨ol, hol, _, nl, hdl⟩ := ht
  unfold Builtin.SmallTypes.nextOf
  refine wpAny_bind (wpAny_callSpecial?_slot (name := Str.ofString "__next__") hit.typeIs F.slot_tuple_iterator_next (wpAny_call_entry F.slot_tuple_iterator_next hit.typeIs F.entry_tuple_iterator_next ?_ (F.args_tuple_iterator_next_1 _)))
  show wpAny _ _ (field (.ref it) 0 >>= _) _ _ s
  refine wpAny_bind (wpAny_field ho hd (x := .ref t) rfl ?_)
  show wpAny _ _ (if (Value.ref t == Value.none) = true then _ else _) _ _ s
  rw [if_neg (show ¬ ((Value.ref t == Value.none) = true) from Bool.false_ne_true)]
  show wpAny _ _ (field (.ref it) 1 >>= _) _ _ s
  refine wpAny_bind (wpAny_field ho hd (x := .int i 0) rfl ?_)
  show wpAny _ _ (seqItems? (.ref t) >>= _) _ _ s
  refine wpAny_bind (wpAny_seqItems hol hdl ?_)
  simp only [Int.toNat_natCast, hx]
  refine wpAny_bind (wpAny_setField ho hd (by simp) (wpAny_pure ⟨x, rfl, wpAny_pure (hQ _ ?_ (Heap.SameBut.update ..))⟩))
  exact ⟨_, Heap.get?_update_self _ ho (Obj.isFreed_of_fields (Obj.data_mapFields hd _)), (Obj.cls_mapFields ..).trans hc, by rw [Obj.data_mapFields hd]; simp [rawInt]⟩
theorem tupNext_end {it t : Addr} {i : Nat} {items : Array Value} {Q : Value → Shared → Prop} (hh : A.handled = none) (hit : s.heap.IsTupleIter it t i) (ht : s.heap.IsTuple t items) (hx : items[i]? = none)
    (hE : ∀ h' e, Heap.ExtBut it s.heap h' → (∃ o, h'.get? e = some o ∧ o.cls = .type "StopIteration") → E (.ref e) { s with heap := h' }) : wpAny (model prog w) A (Builtin.SmallTypes.nextOf (.ref it)) Q E s := by
  obtain ⟨o, ho, hc, hd⟩ := id hit
  obtain ⟨ol, hol, _, nl, hdl⟩ := ht
  unfold Builtin.SmallTypes.nextOf
  refine wpAny_bind (wpAny_callSpecial?_slot (name := Str.ofString "__next__") hit.typeIs F.slot_tuple_iterator_next (wpAny_call_entry F.slot_tuple_iterator_next hit.typeIs F.entry_tuple_iterator_next ?_ (F.args_tuple_iterator_next_1 _)))
  show wpAny _ _ (field (.ref it) 0 >>= _) _ _ s
  refine wpAny_bind (wpAny_field ho hd (x := .ref t) rfl ?_)
  show wpAny _ _ (if (Value.ref t == Value.none) = true then _ else _) _ _ s
  rw [if_neg (show ¬ ((Value.ref t == Value.none) = true) from Bool.false_ne_true)]
  show wpAny _ _ (field (.ref it) 1 >>= _) _ _ s
  refine wpAny_bind (wpAny_field ho hd (x := .int i 0) rfl ?_)
  show wpAny _ _ (seqItems? (.ref t) >>= _) _ _ s
  refine wpAny_bind (wpAny_seqItems hol hdl ?_)
  simp only [Int.toNat_natCast, hx]
  refine wpAny_bind (wpAny_rule (wpAny_bind (wpAny_setField ho hd (by simp) ?_)))
  show wpAny _ _ (newExc (.type "StopIteration") [] >>= _) _ _ _
  refine wpAny_bind ?_
  simp only [newExc, newTuple]
  refine wpAny_bind (wpAny_newObj_type ?_ (by size_fits))
  refine wpAny_bind (m := firstArgMember _ _) (wpAny_of_eq (a := Value.none) (by first | rfl | (simp only [firstArgMember]; rfl)) ?_)
  refine wpAny_newObj_type ?_ (by size_fits)
  simp only [raiseNew]
  refine wpAny_bind (wpAny_handled ?_)
  first | rw [show A.in1.handled = none from hh] | rw [hh]
  refine wpAny_bind (wpAny_pure (wpAny_throw ?_))
  exact hE _ _ (((Heap.SameBut.update ..).extBut.push _).push _) ⟨_, Heap.get?_push_size _ rfl, rfl⟩
theorem tupDraws (hh : A.handled = none) (it l : Addr) (hne : l ≠ it) (items : Array Value) :
    Draws prog w A it [it, l] items.size (fun i v => items[i]? = some v) (fun i h => h.IsTupleIter it l i ∧ h.IsTuple l items) where
  live := fun _ _ st => let ⟨o, ho, _⟩ := st.1; ⟨o, ho⟩
  frame := fun _ _ _ st hk => ⟨st.1.at fun o e => hk it (by simp) o e, st.2.at fun o e => hk l (by simp) o e⟩
  item := fun i s Q E hi st hQ => by
    refine tupNext_item st.1 st.2 (x := items[i]) (by simp [hi]) fun h' hit' hs' => ?_
    exact hQ _ h' s.toks (by simp [hi]) ⟨hit', st.2.extBut hs'.extBut hne⟩ hs'
  done := fun s Q E st hE => tupNext_end hh st.1 st.2 (by simp) hE
theorem tupEnumNew (l : Addr) (items : Array Value) (n : Nat) (dct : Option Addr) (sl : Array (Option Value)) :
    Meets (Builtin.«enumerate.__new__» ⟨[.type "enumerate", .ref l], []⟩) (fun _ R s => s.heap.get? l = some { cls := .type "tuple", dict := dct, data := .seq items n, slots := sl } ∧
      R (.ok (.ret (.ref (s.heap.push { cls := .type "tuple_iterator", data := .fields #[.ref l, .int 0 0] }).objs.size)))
        { s with heap := (s.heap.push { cls := .type "tuple_iterator", data := .fields #[.ref l, .int 0 0] }).push { cls := .type "enumerate", data := .fields #[.none, .bool false, .ref s.heap.objs.size, rawInt 0, .none, .none] } }) :=
  .of_wp fun prog w A R s h => by
    obtain ⟨hp, g, d, tk, os⟩ := s; obtain ⟨hl, h⟩ := h
    have hsub := sub_enumerate
    have hL : Heap.IsTuple (Shared.heap ⟨hp, g, d, tk, os⟩) l items := ⟨_, hl, rfl, n, rfl⟩
    wp_walk using wpAny_loadPart' hl
    refine wpAny_stack_any fun st => wpAny_pure ?_
    split
    · rename_i c _ _ _ _ _
      cases (c == Value.type "enumerate")
      · wp_walk using wpAny_loadPart' hl, wpAny_pyIter_tuple hL
        exact ⟨_, rfl, h⟩
      · wp_walk using wpAny_loadPart' hl, wpAny_pyIter_tuple hL
        exact ⟨_, rfl, h⟩
    · wp_walk using wpAny_loadPart' hl, wpAny_pyIter_tuple hL
      exact ⟨_, rfl, h⟩
abbrev enumO (it : Addr) (i : Int) (old : Value) : Obj := { cls := .type "enumerate", dict := none, data := .fields #[.none, .bool false, .ref it, rawInt i, .none, old], slots := #[] }
abbrev titO (x : Addr) : Obj := { cls := .type "tuple_iterator", data := .fields #[.ref x, .int 0 0] }
theorem tupEnum {l : Addr} {vs : List Value} {Q : Value → Shared → Prop} (hl : s.heap.get? l = some (tup vs))
    (h : Q (.ref (s.heap.objs.size + 1)) { s with heap := (s.heap.push (titO l)).push (enumO s.heap.objs.size 0 .none) }) :
    wpAny (model prog w) A (call (.type "enumerate") [.ref l]) Q E s := by
  refine callType_new F.called_enumerate (by decide) (F.typeCall_enumerate_1 _) (F.newCall_enumerate_1 _) (fun obj => F.args_object_init_2 obj _) F.entry_enumerate_new (tupEnumNew l vs.toArray 0 none #[]) ⟨hl, ?_⟩
  have hz : (s.heap.push (titO l)).objs.size = s.heap.objs.size + 1 := Heap.size_push ..
  show _ ∧ _
  rw [hz]
  have he : ((s.heap.push (titO l)).push (enumO s.heap.objs.size 0 .none)).get? (s.heap.objs.size + 1) = some (enumO s.heap.objs.size 0 .none) := by
    have := Heap.get?_push_size (s.heap.push (titO l)) (o := enumO s.heap.objs.size 0 .none) rfl
    rw [hz] at this; exact this
  exact ⟨⟨_, he, rfl⟩, h⟩
end
section
variable {c : Cx} {m : Loc} {led l : Led} {X : Value → Loc → Led → Prop} {env : Env} {Q : Flow → Loc → Led → Prop}
theorem T.enumK {Q : Value → Loc → Led → Prop} {x : Addr} {vs : List Value} (hx : roOk c led [(x, tup vs)])
    (h : ∀ e it, Q (.ref e) m ((e, enumO it 0 .none) :: (it, titO x) :: led)) : T c m led (call (.type "enumerate") [.ref x]) Q X := .mk fun hp tk R => by
  have ho := R.ro hx _ (.head _)
  refine tupEnum ho ?_
  have R1 := R.push (titO x) rfl
  have R2 := R1.push (enumO hp.objs.size 0 .none) rfl
  have hz : (hp.push (titO x)).objs.size = hp.objs.size + 1 := Heap.size_push ..
  rw [hz] at R2
  exact post_ok R2 (h _ _)
theorem T.iter_enum {Q : Value → Loc → Led → Prop} {e it : Addr} {i : Int} {old : Value} (hm : (e, enumO it i old) ∈ led) (h : Q (.ref e) m led) : T c m led (pyIter (.ref e)) Q X := .mk fun hp tk R =>
  wpAny_pyIter_enum (R.get hm) (post_ok R h)
/-- the loop over enumerate(x), x a tuple -/
theorem TC.enum {e it x : Addr} {vs : List Value} {elts : List Expr} {k : Nat} {pos : Pos} {body orelse : List Stmt} (hh : c.A.handled = none) (hx : c.h0.get? x = some (tup vs)) (J : Nat → Loc → Led → Prop) (hJ : J 0 m l)
    (turn : ∀ i v oe oi t a m₁ l₁, vs[i]? = some v → J i m₁ l₁ → T c m₁ ((e, oe) :: (it, oi) :: (a, tup [.int (i : Nat) t, v]) :: l₁) (assign (.Tuple elts k pos) env (.ref a)) (fun _ m₃ l₃ => T c m₃ l₃ (execs body env) (fun f m₄ l₄ => match f with
      | .next | .cont => ∃ l', ((e, oe) :: (it, oi) :: l').Perm l₄ ∧ J (i + 1) m₄ l' | .brk => Q .next m₄ l₄ | .ret v => Q (.ret v) m₄ l₄) NoX) NoX)
    (done : ∀ m₁ l₁, J vs.length m₁ l₁ → T c m₁ l₁ (execs orelse env) Q NoX) :
    TC c m ((e, enumO it 0 .none) :: (it, titO x) :: l) (.forLoop (.Tuple elts k pos) (.ref e) body orelse env) Q := .mk fun hp tk R => by
  have noX : ∀ {v : Value} {s' : Shared} {P : Prop}, Post c NoX v s' → P := fun ⟨_, _, _, _, _, _, x⟩ => x.elim
  refine codeAny_forLoop_any (fun k s' => ∃ i m₁ l₁ old oi h₁ tk₁, s' = c.s h₁ tk₁ ∧ Rep c m₁ ((e, enumO it (i : Nat) old) :: (it, oi) :: l₁) h₁ ∧ (oi.cls = .type "tuple_iterator" ∧ oi.data = .fields #[.ref x, .int (i : Nat) 0]) ∧ J i m₁ l₁ ∧ i ≤ vs.length ∧ k = vs.length + 1 - i) ?_ (vs.length + 1) ⟨0, m, l, .none, titO x, hp, tk, rfl, R, ⟨rfl, rfl⟩, hJ, Nat.zero_le _, rfl⟩
  rintro k s' ⟨i, m₁, l₁, old, oi, h₁, tk₁, rfl, R₁, ⟨hoc, hod⟩, J₁, hi, rfl⟩
  have he := (R₁.news (e, enumO it (i : Nat) old) (.head _)).1
  have hit := (R₁.news (it, oi) (.tail _ (.head _))).1
  have hxx : h₁.get? x = some (tup vs) := R₁.fr.keep _ _ hx
  have hnd := R₁.nd
  simp only [List.map_cons, List.nodup_cons, List.mem_cons, not_or] at hnd
  obtain ⟨⟨hei, hel⟩, hil, hll⟩ := hnd
  have hxe : x ≠ e := fun q => by have := (R₁.news (e, enumO it (i : Nat) old) (.head _)).2.2; rw [← q, hx] at this; cases this
  have hxi : x ≠ it := fun q => by have := (R₁.news (it, oi) (.tail _ (.head _))).2.2; rw [← q, hx] at this; cases this
  have st : h₁.IsTupleIter it x i ∧ h₁.IsTuple x vs.toArray := ⟨⟨oi, hit, hoc, hod⟩, ⟨_, hxx, rfl, 0, rfl⟩⟩
  have D := tupDraws (prog := pw) (w := c.w) (A := c.A.in1) hh it x hxi vs.toArray
  have hef : e ∉ [it, x] := by simp only [List.mem_cons, List.not_mem_nil, or_false, not_or]; exact ⟨hei, Ne.symm hxe⟩
  by_cases hlt : i < vs.length
  · refine wpAny_pyNext_enum_itemD D he st (by simpa using hlt) hei hef fun v h₂ tk₂ hP ho hs hT hsz hk => ?_
    have hk' : ∀ b o, b ≠ e → b ≠ it → h₁.get? b = some o → h₂.get? b = some o := hk
    obtain ⟨⟨oi', hoi, hoc', hod'⟩, _⟩ := hs
    -- the state behind pyNext
    obtain ⟨oL, es, ep, hL, hr⟩ := R₁.fr.ns
    have hLe : c.L ≠ e := fun q => (R₁.news (e, enumO it (i : Nat) old) (.head _)).2.1 q.symm
    have hLi : c.L ≠ it := fun q => (R₁.news (it, oi) (.tail _ (.head _))).2.1 q.symm
    have hne1 := (R₁.news (e, enumO it (i : Nat) old) (.head _)).2
    have hni := (R₁.news (it, oi) (.tail _ (.head _))).2
    refine wpAny_letOwnedTupleGo_enum ho fun h₃ he₃ hs₃ => ?_
    have k3 : ∀ b o, b ≠ e → b ≠ it → h₁.get? b = some o → h₃.get? b = some o := fun b o h1 h2 q => (hs₃.2 b h1).trans (hk' b o h1 h2 q)
    have hilt : it < h₁.objs.size := Heap.lt_size hit
    have helt : e < h₁.objs.size := Heap.lt_size he
    have R₃ : Rep c m₁ ((e, enumO it ((i + 1 : Nat) : Int) v) :: (it, oi') :: (h₁.objs.size, tup [.int (i : Nat) tk₂, v]) :: l₁) h₃ := by
      refine ⟨⟨⟨oL, es, ep, k3 _ _ hLe hLi hL, hr⟩, fun b o q => k3 b o (fun z => ?_) (fun z => ?_) (R₁.fr.keep b o q), R₁.fr.above⟩, fun p hp => ?_, ?_, R₁.outs.go (fun b x _ h2 q => k3 b x (fun z => h2 (by rw [z]; exact .head _)) (fun z => h2 (by rw [z]; exact .tail _ (.head _))) q) fun b hb => ?_⟩
      rotate_right
      · rcases List.mem_cons.mp hb with rfl | hb
        · exact .inl (.head _)
        rcases List.mem_cons.mp hb with rfl | hb
        · exact .inl (.tail _ (.head _))
        rcases List.mem_cons.mp hb with rfl | hb
        · exact .inr (Heap.get?_none_of_le (Nat.le_refl _))
        · exact .inl (.tail _ (.tail _ hb))
      · rw [z, hne1.2] at q; cases q
      · rw [z, hni.2] at q; cases q
      · rcases List.mem_cons.mp hp with rfl | hp
        · refine ⟨?_, hne1⟩
          have e1 : (((i + 1 : Nat) : Int)) = (i : Int) + 1 := by push_cast; rfl
          rw [e1]; exact he₃
        rcases List.mem_cons.mp hp with rfl | hp
        · exact ⟨(hs₃.2 _ (Ne.symm hei)).trans hoi, hni⟩
        rcases List.mem_cons.mp hp with rfl | hp
        · refine ⟨(hs₃.2 _ (Nat.ne_of_gt helt)).trans hT, Nat.ne_of_gt (Heap.lt_size hL), ?_⟩
          cases q : c.h0.get? h₁.objs.size with
          | none => rfl
          | some o => exact absurd (Heap.lt_size (R₁.fr.keep _ _ q)) (Nat.lt_irrefl _)
        · have := R₁.news p (.tail _ (.tail _ hp))
          exact ⟨k3 _ _ (fun z => hel (by rw [← z]; exact List.mem_map_of_mem hp)) (fun z => hil (by rw [← z]; exact List.mem_map_of_mem hp)) this.1, this.2⟩
      · simp only [List.map_cons, List.nodup_cons, List.mem_cons, not_or]
        refine ⟨⟨hei, Nat.ne_of_lt helt, hel⟩, ⟨Nat.ne_of_lt hilt, hil⟩, fun hm => ?_, hll⟩
        obtain ⟨p, hp, z⟩ := List.mem_map.mp hm
        have := Heap.lt_size (R₁.news p (.tail _ (.tail _ hp))).1
        rw [z] at this
        exact Nat.lt_irrefl _ this
    refine wpAny_mono ((turn i v _ oi' tk₂ h₁.objs.size m₁ l₁ (by simpa using hP) J₁).run h₃ (tk₂ + 1) R₃) (fun _ s₄ ⟨m₄, l₄, h₄, tk₄, e4, R₄, q₄⟩ => ?_) fun _ _ x => noX x
    subst e4
    refine wpAny_mono (q₄.run h₄ tk₄ R₄) (fun f s₅ ⟨m₅, l₅, h₅, tk₅, e5, R₅, q₅⟩ => ?_) fun _ _ x => noX x
    subst e5
    have nx : (∃ l', ((e, enumO it ((i + 1 : Nat) : Int) v) :: (it, oi') :: l').Perm l₅ ∧ J (i + 1) m₅ l') → ∃ m, m < vs.length + 1 - i ∧ ∃ i m₁ l₁ old oi h₁ tk₁, c.s h₅ tk₅ = c.s h₁ tk₁ ∧ Rep c m₁ ((e, enumO it (i : Nat) old) :: (it, oi) :: l₁) h₁ ∧ (oi.cls = .type "tuple_iterator" ∧ oi.data = .fields #[.ref x, .int (i : Nat) 0]) ∧ J i m₁ l₁ ∧ i ≤ vs.length ∧ m = vs.length + 1 - i := fun ⟨l', hpm, j⟩ =>
      ⟨vs.length + 1 - (i + 1), by omega, i + 1, m₅, l', v, oi', h₅, tk₅, rfl, R₅.perm hpm, ⟨hoc', hod'⟩, j, hlt, rfl⟩
    cases f with
    | next => exact nx q₅
    | cont => exact nx q₅
    | brk => exact post_ok R₅ q₅
    | ret v => exact post_ok R₅ q₅
  · have hin : i = vs.length := by omega
    subst hin
    have st' : h₁.IsTupleIter it x vs.toArray.size ∧ h₁.IsTuple x vs.toArray := by simpa using st
    refine wpAny_pyNext_enum_endD D he st' fun h₂ hx₂ => ?_
    have R₂ : Rep c m₁ l₁ h₂ := by
      have hnd2 := R₁.nd
      refine Rep.tail (I := it) (o := oi) (hp := h₁) (h' := h₂) ⟨R₁.fr, fun p hp => R₁.news p (.tail _ hp), ?_, R₁.outs.go (fun _ _ _ _ e => e) fun b hb => .inl (.tail _ hb)⟩ fun b x hb q => hx₂ b x hb q
      simp only [List.map_cons, List.nodup_cons]
      exact ⟨hil, hll⟩
    exact wpAny_mono ((done m₁ l₁ J₁).run h₂ tk₁ R₂) (fun f s₃ x => x) fun _ _ x => noX x
end
-- F1
local macro_rules | `(tactic| wtm_at "un") => `(tactic| first | (with_reducible refine (by assumption : Hid _ _) _ _ _ ?_) | (with_reducible refine seq_ret ?_) | (with_reducible refine seq_brk ?_) | (with_reducible refine seq_cont ?_))
local macro_rules | `(tactic| wtm_at "t") => `(tactic| first
  | (with_reducible refine T.execs_cons2 fun _ _ _ _ => ?_)
  | (with_reducible refine T.execs_nil ?_)
  | (with_reducible refine T.ret ?_)
  | (with_reducible refine T.assign (by kernel_rfl) ?_)
  | (with_reducible refine T.expr (by kernel_rfl) (by kernel_rfl) ?_)
  | (with_reducible refine T.ite ?_)
  | (with_reducible refine T.binop ?_)
  | (with_reducible refine T.compare (by kernel_rfl) ?_)
  | (with_reducible refine T.test (by kernel_rfl) ?_)
  | (with_reducible refine T.truthy_bool ?_)
  | (with_reducible refine T.int ?_; intro _)
  | (with_reducible refine T.name (by kernel_rfl) (by with_unfolding_all rfl) (by kernel_rfl) (by kernel_rfl) (by with_unfolding_all rfl) ?_)
  | (with_reducible refine T.store (by kernel_rfl) (by with_unfolding_all rfl) (by kernel_rfl) ?_)
  | (with_reducible refine T.sub_script ?_)
  | (with_reducible refine T.add ?_; intro _)
  | (with_reducible refine T.sub ?_; intro _)
  | (with_reducible refine T.and ?_; intro _)
  | (with_reducible refine T.eq ?_)
  | (with_reducible refine T.ne ?_)
  | (with_reducible refine T.lt ?_)
  | (with_reducible refine T.gt ?_)
  | (with_reducible refine T.call_name (by kernel_rfl) ?_)
  | (with_reducible refine T.snil ?_)
  | (with_reducible refine T.scons ?_)
  | (with_reducible refine (by assumption : Hid _ _) _ _ _ ?_)
  | (with_reducible refine seq_ret ?_)
  | (with_reducible refine seq_brk ?_)
  | (with_reducible refine seq_cont ?_))
section
variable {c : Cx} {m : Loc} {led : Led} {X : Value → Loc → Led → Prop} {Q : Value → Loc → Led → Prop}
theorem S_IMODE_T {n : Nat} (G : Gd c (n + 1)) {a : Int} {t : Tok} (h : ∀ t, Q (.int (Builtin.bitAnd a 4095) t) m led) : T c m led (call (.ref 197) [.int a t]) Q X := by
  refine T.def [(Str.ofString "mode", some (.int a t))] G rfl (by kernel_rfl) (by kernel_rfl) (by kernel_rfl) rfl ?_
  intro c' hw G'
  repeat' wtm_at "t"
  exact ⟨_, .refl _, h _⟩
theorem S_IFMT_T {n : Nat} (G : Gd c (n + 1)) {a : Int} {t : Tok} (h : ∀ t, Q (.int (Builtin.bitAnd a 61440) t) m led) : T c m led (call (.ref 204) [.int a t]) Q X := by
  refine T.def [(Str.ofString "mode", some (.int a t))] G rfl (by kernel_rfl) (by kernel_rfl) (by kernel_rfl) rfl ?_
  intro c' hw G'
  repeat' wtm_at "t"
  exact ⟨_, .refl _, h _⟩
theorem g_S_IFMT (w : World) : nsIn (kk.heap_1 w.params) mainGlobals (Str.ofString "S_IFMT") = some (some (.ref 204)) := by kernel_rfl
theorem g_S_IFDIR (w : World) : nsIn (kk.heap_1 w.params) mainGlobals (Str.ofString "S_IFDIR") = some (some (.int 16384 465)) := by kernel_rfl
theorem S_ISDIR_T {n : Nat} (G : Gd c (n + 2)) {a : Int} {t : Tok} (h : Q (.bool (Builtin.bitAnd a 61440 == 16384)) m led) : T c m led (call (.ref 211) [.int a t]) Q X := by
  refine T.def [(Str.ofString "mode", some (.int a t))] G rfl (by kernel_rfl) (by kernel_rfl) (by kernel_rfl) rfl ?_
  intro c' hw G'
  repeat' wtm_at "t"
  refine T.global G' (g_S_IFMT _) rfl rfl (by kernel_rfl) (by kernel_rfl) ?_
  refine T.cw G' (by kernel_rfl) ?_
  repeat' wtm_at "t"
  refine S_IFMT_T G' fun t => ?_
  refine T.global G' (g_S_IFDIR _) rfl rfl (by kernel_rfl) (by kernel_rfl) ?_
  repeat' wtm_at "t"
  exact ⟨_, .refl _, h⟩
/-- the parents: a tree whose nodes come behind their parents -/
structure Tree (ps : List Nat) : Prop where
  pos : 0 < ps.length
  root : ps.getD 0 0 = 0
  lt : ∀ k, 0 < k → k < ps.length → ps.getD k 0 < k
def dep (ps : List Nat) (k : Nat) : Nat := if h : ps.getD k 0 < k then dep ps (ps.getD k 0) + 1 else 0
termination_by k
theorem depth_T {n : Nat} (G : Gd c (n + 1)) {ps : List Nat} (H : Tree ps) {k : Nat} (hk : k < ps.length) {t : Tok} {l : Addr} {vs : List Value} {e : Nat} (hl : (l, lst vs e) ∈ led) (hv : ∀ i : Nat, i < ps.length → ∃ t, vs[i]? = some (.int (ps.getD i 0 : Nat) t)) (hsz : ps.length < 2 ^ 20) (h : ∀ t, Q (.int (dep ps k : Nat) t) m led) :
    T c m led (call (.ref 310) [.int k t, .ref l]) Q X := by
  refine T.def [(Str.ofString "k", some (.int k t)), (Str.ofString "parents", some (.ref l)), (Str.ofString "depth", none)] G rfl (by kernel_rfl) (by kernel_rfl) (by kernel_rfl) rfl ?_
  intro c' hw G'
  repeat' wtm_at "t"
  refine T.while (fun x m₁ l₁ => l₁ = led ∧ x < ps.length ∧ ∃ d t₁ t₂, m₁ = [(Str.ofString "k", some (.int (x : Nat) t₁)), (Str.ofString "parents", some (.ref l)), (Str.ofString "depth", some (.int (d : Nat) t₂))] ∧ d + dep ps x = dep ps k) k ?_ ?_
  · exact ⟨rfl, hk, 0, _, _, rfl, by omega⟩
  · rintro x m₁ l₁ ⟨rfl, hx, d, t₁, t₂, rfl, hd⟩
    repeat' wtm_at "t"
    by_cases hx0 : x = 0
    · subst hx0
      have : (((0 : Nat) : Int) != 0) = false := by decide
      rw [this, if_neg Bool.false_ne_true]
      repeat' wtm_at "t"
      have e0 : dep ps 0 = 0 := by rw [dep]; simp
      have : d = dep ps k := by omega
      subst this
      exact ⟨_, .refl _, h _⟩
    · have hne : (((x : Nat) : Int) != 0) = true := by simp; omega
      rw [if_pos hne]
      obtain ⟨t₃, h₃⟩ := hv x hx
      have hlt := H.lt x (by omega) hx
      repeat' wtm_at "t"
      refine T.item hl (by omega) (by omega) (by simpa using h₃) (by kernel_rfl) ?_
      repeat' wtm_at "t"
      refine ⟨ps.getD x 0, hlt, rfl, by omega, d + 1, _, _, rfl, ?_⟩
      rw [dep, dif_pos hlt] at hd
      omega
end
-- F2
local macro_rules | `(tactic| wtm_at "up") => `(tactic| first | exact Up.head | (apply Up.tail; wtm_at "up"))
local macro_rules | `(tactic| wtm_at "mem") => `(tactic| first | exact List.Mem.head _ | assumption | (refine List.Mem.tail _ ?_; wtm_at "mem") | exact List.mem_append_right _ (by wtm_at "mem"))
local macro_rules | `(tactic| wtm_at "bring") => `(tactic| first | exact Bring.head | (apply Bring.tail; wtm_at "bring"))
local macro_rules | `(tactic| wtm_at "perm") => `(tactic| first | exact List.Perm.refl _ | (refine' perm_by ?b ?_; (case b => wtm_at "bring"); wtm_at "perm"))
local macro_rules | `(tactic| wtm_at "append") => `(tactic| (
  (with_reducible refine T.expr (by kernel_rfl) (by kernel_rfl) ?_);
  (with_reducible refine T.mcall (by kernel_rfl) (by kernel_rfl) ?_);
  wtm_at "t";
  (refine T.list_method (by wtm_at "mem") F.slot_list_append F.type_list_append ?_);
  (with_reducible refine T.cwb ?_);
  (with_reducible refine T.scons ?_)))
local macro_rules | `(tactic| wtm_at "app1") => `(tactic| (refine' T.append ?u ?z ?_; (case u => wtm_at "up"); (case z => first | assumption | (simp only [List.length_append, List.length_cons, List.length_nil] at *; omega))))
section
variable {c : Cx} {m : Loc} {led : Led} {X : Value → Loc → Led → Prop} {Q : Value → Loc → Led → Prop} {env : Env}
theorem T.str {x : Str} {k : Nat} {pos : Pos} (h : ∀ t, Q (.str x t) m led) : T c m led (eval (.Constant (.str x) k pos) env) Q X := .mk fun _ _ R => wpAny_Constant_str (post_ok R (h _))
theorem T.brk {pos : Pos} {Q : Flow → Loc → Led → Prop} (h : Q .brk m led) : T c m led (exec (.Break pos) env) Q X := .mk fun _ _ R => wpAny_Break (post_ok R h)
theorem T.gm_join {x : Str} {t : Tok} {pl : Sem Bool} {Q : Value × List Value → Loc → Led → Prop} (h : Q (.builtin "str.join", [.str x t]) m led) : T c m led (getMethod (.str x t) (Str.ofString "join") pl) Q X := .mk fun _ _ R => GM.join (post_ok R h)
theorem T.join {x : Str} {t : Tok} {D : Addr} {vs : List Value} {n : Nat} {ys : List Str} (hl : (D, lst vs n) ∈ led) (hi : StrsAre vs ys) (hsep : x.length ≤ 16) (hw : (ys.map (·.length)).sum + ys.length ≤ 1048576) (h : ∀ t', Q (.str (Txt.join x ys) t') m led) : T c m led (call (.builtin "str.join") [.str x t, .ref D]) Q X := .mk fun hp tk R =>
  join_listW (R.isList hl) hi hsep hw fun t' k => post_ok R (h t')
theorem T.cons_mem {t : Sem Value} (h : T c m led t Q X) : T c m led t Q X := h
end
theorem perm_ok {α : Type} {a b : List α} (h : a = b) : a.Perm b := h ▸ List.Perm.refl _

/-- filemode's table -/
def fmTab : List (List (Int × Str)) := [[(40960, "l"), (49152, "s"), (32768, "-"), (24576, "b"), (16384, "d"), (8192, "c"), (4096, "p")], [(256, "r")], [(128, "w")], [(2112, "s"), (2048, "S"), (64, "x")], [(32, "r")], [(16, "w")], [(1032, "s"), (1024, "S"), (8, "x")], [(4, "r")], [(2, "w")], [(513, "t"), (512, "T"), (1, "x")]]
def fmHit (i : Nat) (mode b : Int) : Bool := if i = 0 then Builtin.bitAnd mode 61440 == b else Builtin.bitAnd mode b == b
def fmPick (i : Nat) (mode : Int) (tb : List (Int × Str)) : Str := ((tb.find? fun p => fmHit i mode p.1).map (·.2)).getD (if i = 0 then "?" else "-")
def fmSigns (mode : Int) : List Str := (fmTab.zipIdx).map fun q => fmPick q.2 mode q.1
def prChk (K : Frag) (v : Value) (p : Int × Str) : Bool := match v with
  | .ref a => match K.lookup a with
    | some ⟨.type "tuple", none, .seq xs 0, sl⟩ => match xs.toList, sl.toList with
      | [.int b _, .str ch _], [] => b == p.1 && ch == p.2
      | _, _ => false
    | _ => false
  | _ => false
def tabChk (K : Frag) (v : Value) (tb : List (Int × Str)) : Bool := match v with
  | .ref a => match K.lookup a with
    | some ⟨.type "tuple", none, .seq xs 0, sl⟩ => sl.toList.isEmpty && xs.toList.length == tb.length && (xs.toList.zip tb).all fun q => prChk K q.1 q.2
    | _ => false
  | _ => false
theorem prChk_ok {K : Frag} {v : Value} {p : Int × Str} (h : prChk K v p = true) : ∃ a t t', v = .ref a ∧ K.lookup a = some (tup [.int p.1 t, .str p.2 t']) := by
  unfold prChk at h
  cases v with
  | ref a =>
    dsimp only at h
    split at h
    · rename_i xs sl hk
      split at h
      · rename_i b tb ch tc hx hs
        rw [Bool.and_eq_true] at h
        have h1 : b = p.1 := by simpa using h.1
        have h2 : ch = p.2 := by simpa using h.2
        subst h1 h2
        refine ⟨a, tb, tc, rfl, ?_⟩
        rw [hk]
        have e1 : xs = [Value.int p.1 tb, Value.str p.2 tc].toArray := Array.ext' (by simpa using hx)
        have e2 : sl = #[] := Array.ext' (by simpa using hs)
        subst e1 e2; rfl
      · cases h
    · cases h
  | _ => cases h
theorem tabChk_ok {K : Frag} {v : Value} {tb : List (Int × Str)} (h : tabChk K v tb = true) : ∃ (a : Addr) (vs : List Value), v = .ref a ∧ K.lookup a = some (tup vs) ∧ vs.length = tb.length ∧ ∀ (j : Nat) (x : Value), vs[j]? = some x → ∃ p, tb[j]? = some p ∧ prChk K x p = true := by
  unfold tabChk at h
  cases v with
  | ref a =>
    dsimp only at h
    split at h
    · rename_i xs sl hk
      simp only [Bool.and_eq_true] at h
      obtain ⟨⟨h1, h2⟩, h3⟩ := h
      have e2 : sl = #[] := Array.ext' (by simpa using h1)
      have hl : xs.toList.length = tb.length := by simpa using h2
      refine ⟨a, xs.toList, rfl, by rw [hk, e2], hl, fun j x hx => ?_⟩
      have hj : j < tb.length := by
        have := (List.getElem?_eq_some_iff.mp hx).1
        omega
      refine ⟨tb[j], by simp [hj], ?_⟩
      have hz : (xs.toList.zip tb)[j]? = some (x, tb[j]) := by rw [List.getElem?_zip_eq_some]; exact ⟨hx, by simp [hj]⟩
      exact List.all_eq_true.mp h3 _ (List.mem_of_getElem? hz)
    · cases h
  | _ => cases h
/-- what the table's places hold -/
def fmRefs : List Value := [.ref 219, .ref 221, .ref 223, .ref 227, .ref 229, .ref 231, .ref 235, .ref 237, .ref 239, .ref 243]
theorem fm_chk (w : World) : ((fmRefs.zip fmTab).all fun q => tabChk (kk.heap_1 w.params) q.1 q.2) = true := by kernel_rfl
theorem fm_top (w : World) : (kk.heap_1 w.params).lookup 244 = some (tup fmRefs) := by kernel_rfl
theorem fm_at (w : World) {i : Nat} {v : Value} (h : fmRefs[i]? = some v) : ∃ tb, fmTab[i]? = some tb ∧ tabChk (kk.heap_1 w.params) v tb = true := by
  have hi : i < 10 := (List.getElem?_eq_some_iff.mp h).1
  have hj : i < fmTab.length := hi
  refine ⟨fmTab[i], by simp [hj], ?_⟩
  have hz : (fmRefs.zip fmTab)[i]? = some (v, fmTab[i]) := by rw [List.getElem?_zip_eq_some]; exact ⟨h, by simp [hj]⟩
  exact List.all_eq_true.mp (fm_chk w) _ (List.mem_of_getElem? hz)
theorem g_filemode_table (w : World) : nsIn (kk.heap_1 w.params) mainGlobals (Str.ofString "_filemode_table") = some (some (.ref 244)) := by kernel_rfl
theorem g_no_enumerate (w : World) : nsIn (kk.heap_1 w.params) mainGlobals (Str.ofString "enumerate") = some none := by kernel_rfl
theorem fmSigns_at {a : Int} {i : Nat} {tb : List (Int × Str)} (h : fmTab[i]? = some tb) : (fmSigns a)[i]? = some (fmPick i a tb) := by
  unfold fmSigns
  rw [List.getElem?_map, List.getElem?_zipIdx, h]
  simp
theorem find_at {α : Type} {p : α → Bool} {tb : List α} {j : Nat} {x : α} (hx : tb[j]? = some x) (hn : ∀ q ∈ tb.take j, p q = false) (hp : p x = true) : tb.find? p = some x := by
  have hj := (List.getElem?_eq_some_iff.mp hx).1
  have hx' := (List.getElem?_eq_some_iff.mp hx).2
  have e : tb = tb.take j ++ x :: tb.drop (j + 1) := by rw [← hx']; simp
  rw [e, List.find?_append]
  have : (tb.take j).find? p = none := by rw [List.find?_eq_none]; intro q hq; rw [hn q hq]; exact Bool.false_ne_true
  rw [this]; simp [hp]
theorem fmPick_len (i : Nat) (a : Int) {tb : List (Int × Str)} (h : ∀ p ∈ tb, p.2.length ≤ 1) : (fmPick i a tb).length ≤ 1 := by
  unfold fmPick
  cases hf : tb.find? fun p => fmHit i a p.1 with
  | none => by_cases hi : i = 0 <;> simp [hi] <;> decide
  | some p => exact h p (List.mem_of_find?_eq_some hf)
theorem fmSigns_len (a : Int) : ∀ y ∈ fmSigns a, y.length ≤ 1 := by
  intro y hy
  unfold fmSigns at hy
  obtain ⟨⟨tb, i⟩, hq, rfl⟩ := List.mem_map.mp hy
  have hall : (fmTab.all fun tb => tb.all fun p => decide (p.2.length ≤ 1)) = true := by decide +kernel
  have hm : tb ∈ fmTab := (List.mem_zipIdx' hq).2 ▸ List.getElem_mem _
  exact fmPick_len i a fun p hp => by
    have := List.all_eq_true.mp (List.all_eq_true.mp hall tb hm) p hp
    simpa using this
theorem small_sum : ∀ {ys : List Str}, (∀ y ∈ ys, y.length ≤ 1) → ys.length ≤ 1000 → (ys.map (·.length)).sum + ys.length ≤ 1048576 := by
  intro ys h hl
  have : (ys.map (·.length)).sum ≤ ys.length := by
    clear hl
    induction ys with
    | nil => simp
    | cons y r ih =>
      have h1 := h y (.head _)
      have h2 := ih fun z hz => h z (.tail _ hz)
      simp only [List.map_cons, List.sum_cons, List.length_cons]
      omega
  omega
theorem StrsAre.snoc {vs : List Value} {ys : List Str} {y : Str} {t : Tok} (h : StrsAre vs ys) : StrsAre (vs ++ [.str y t]) (ys ++ [y]) := StrsAre.append' h (.cons y t .nil)
theorem take_snoc {α : Type} {l : List α} {i : Nat} {x : α} (h : l[i]? = some x) : l.take (i + 1) = l.take i ++ [x] := by rw [List.take_succ, h]; rfl
section
variable {c : Cx} {m : Loc} {led : Led} {X : Value → Loc → Led → Prop} {Q : Value → Loc → Led → Prop} {env : Env}
theorem T.bltn {n : Nat} {x : Str} {pos : Pos} {v : Value} (G : Gd c n) (e : nsIn c.K mainGlobals x = some none) (hb : bootBuiltins x = some v) (hn : x ≠ "__name__") (hg : env.globals = mainGlobals) (hbn : env.builtins = builtinsNs) (hk : env.scope.kind = .function) (hx : env.kindOf x = some .globalImplicit) (hd : (x == ("__debug__" : Str)) = false)
    (h : Q v m led) : T c m led (eval (.Name x pos) env) Q X := .mk fun hp tk R => by
  obtain ⟨mg, g⟩ := G.g
  obtain ⟨mb, b, bb⟩ := G.b
  exact Name_function_global hk hx (loadGlobal_builtin (env := env) (by rw [hg]; exact g.keeps R.fr.keep) (mg_none_of G.K g e) (by rw [hbn]; exact b.keeps R.fr.keep) ((bb x hn).trans hb) (post_ok R h)) hd
theorem filemode_T {n : Nat} (G : Gd c (n + 2)) {a : Int} {t : Tok} (h : ∀ t, Q (.str (Txt.join "" (fmSigns a)) t) m led) : T c m led (call (.ref 251) [.int a t]) Q X := by
  refine T.def [(Str.ofString "mode", some (.int a t)), (Str.ofString "perm", none), (Str.ofString "index", none), (Str.ofString "table", none), (Str.ofString "bit", none), (Str.ofString "char", none)] G rfl (by kernel_rfl) (by kernel_rfl) (by kernel_rfl) rfl ?_
  intro c' hw G'
  have hK := G'.K
  repeat' wtm_at "t"
  refine T.list (by kernel_rfl) (T.snil ⟨by decide, fun pm => ?_⟩)
  repeat' wtm_at "t"
  refine T.for (fun _ => rfl) ?_
  repeat' wtm_at "t"
  refine T.bltn G' (g_no_enumerate _) (by boot_by_name) (by decide) rfl rfl rfl (by kernel_rfl) (by kernel_rfl) ?_
  refine T.cwt ?_
  repeat' wtm_at "t"
  refine T.global G' (g_filemode_table _) rfl rfl (by kernel_rfl) (by kernel_rfl) ?_
  repeat' wtm_at "t"
  have hx0 : c'.h0.get? 244 = some (tup fmRefs) := hK _ _ (fm_top _)
  refine T.enumK (x := 244) (vs := fmRefs) (fun p hp => ?_) fun e it => ?_
  · rw [List.mem_singleton.mp hp]; exact .inr hx0
  refine T.iter_enum (.head _) ?_
  refine TC.enum G'.hdl hx0 (fun i m₁ l₁ => ∃ vs e g o1 o2 o3 o4, m₁ = [(Str.ofString "mode", some (.int a t)), (Str.ofString "perm", some (.ref pm)), (Str.ofString "index", o1), (Str.ofString "table", o2), (Str.ofString "bit", o3), (Str.ofString "char", o4)] ∧ l₁ = (pm, lst vs e) :: (g ++ led) ∧ StrsAre vs ((fmSigns a).take i)) ?_ ?_ ?_
  · exact ⟨[], 0, [], none, none, none, none, rfl, rfl, .nil⟩
  · rintro i v oe oi t₁ a₁ m₁ l₁ hv ⟨vs, ep, g, o1, o2, o3, o4, rfl, rfl, hs⟩
    obtain ⟨tb, htb, hchk⟩ := fm_at c'.w hv
    obtain ⟨ta, prs, rfl, hta, hlen, hprs⟩ := tabChk_ok hchk
    refine T.asTup G'.hdl (vs := [.int (i : Nat) t₁, .ref ta]) (fun p hp => ?_) rfl rfl rfl ?_
    · rw [List.mem_singleton.mp hp]; exact .inl (.tail _ (.tail _ (.head _)))
    refine T.inOrder (T.asName ?_)
    repeat' wtm_at "t"
    refine T.inOrder (T.asName ?_)
    repeat' wtm_at "t"
    refine T.inOrder0 ?_
    repeat' wtm_at "t"
    refine T.for (fun _ => rfl) ?_
    repeat' wtm_at "t"
    refine T.iter_tup (x := ta) (vs := prs) G'.hdl (fun p hp => ?_) fun I oI S W hS => ?_
    · rw [List.mem_singleton.mp hp]; exact .inr (hK _ _ hta)
    have hsz : vs.length ≤ sizeLine := by
      rw [hs.len_eq, List.length_take]
      have : (fmSigns a).length = 10 := rfl
      have : sizeLine = 16777216 := rfl
      omega
    have hpk := fmSigns_at (a := a) htb
    refine TC.for W hS (fun j m₂ l₂ => ∃ o5 o6, m₂ = [(Str.ofString "mode", some (.int a t)), (Str.ofString "perm", some (.ref pm)), (Str.ofString "index", some (.int (i : Nat) t₁)), (Str.ofString "table", some (.ref ta)), (Str.ofString "bit", o5), (Str.ofString "char", o6)] ∧ l₂ = (e, oe) :: (it, oi) :: (a₁, tup [.int (i : Nat) t₁, .ref ta]) :: (pm, lst vs ep) :: (g ++ led) ∧ ∀ q ∈ tb.take j, fmHit i a q.1 = false) ?_ ?_ ?_ ?_
    · intro j m₂ l₂ _ p hp
      rw [List.mem_singleton.mp hp]; exact .inr (hK _ _ hta)
    · exact ⟨o3, o4, rfl, rfl, by simp⟩
    · rintro j v o m₂ l₂ hj hv ⟨o5, o6, rfl, rfl, hno⟩
      obtain ⟨⟨b, ch⟩, hp, hpc⟩ := hprs j v hv
      obtain ⟨ap, tb1, tc1, rfl, hap⟩ := prChk_ok hpc
      refine T.asTup G'.hdl (vs := [.int b tb1, .str ch tc1]) (fun p hp => ?_) rfl rfl rfl ?_
      · rw [List.mem_singleton.mp hp]; exact .inr (hK _ _ hap)
      refine T.inOrder (T.asName ?_)
      repeat' wtm_at "t"
      refine T.inOrder (T.asName ?_)
      repeat' wtm_at "t"
      refine T.inOrder0 ?_
      repeat' wtm_at "t"
      have nexts : (hh : fmHit i a b = false) → ∀ q ∈ tb.take (j + 1), fmHit i a q.1 = false := fun hh q hq => by
        rw [take_snoc hp, List.mem_append] at hq
        rcases hq with hq | hq
        · exact hno q hq
        · rw [List.mem_singleton.mp hq]; exact hh
      have hits : fmHit i a b = true → fmPick i a tb = ch := fun hh => by
        unfold fmPick
        rw [find_at (p := fun p => fmHit i a p.1) hp hno hh]; rfl
      refine split_bool (fun hi => ?_) (fun hi => ?_)
      · have hi0 : i = 0 := by simp at hi; omega
        repeat' wtm_at "t"
        refine T.global G' (g_S_IFMT _) rfl rfl (by kernel_rfl) (by kernel_rfl) ?_
        refine T.cw G' (by kernel_rfl) ?_
        repeat' wtm_at "t"
        refine S_IFMT_T G' fun t => ?_
        repeat' wtm_at "t"
        have hf : fmHit i a b = (Builtin.bitAnd a 61440 == b) := by unfold fmHit; rw [if_pos hi0]
        refine split_bool (fun hb => ?_) (fun hb => ?_)
        · repeat' (first | wtm_at "append" | wtm_at "t")
          wtm_at "app1"
          repeat' wtm_at "t"
          refine T.brk ?_
          repeat' wtm_at "t"
          refine ⟨(pm, lst (vs ++ [.str ch tc1]) (ep + 1)) :: (I, o) :: (a₁, tup [.int (i : Nat) t₁, .ref ta]) :: (g ++ led), by wtm_at "perm", vs ++ [.str ch tc1], ep + 1, (I, o) :: (a₁, tup [.int (i : Nat) t₁, .ref ta]) :: g, _, _, _, _, rfl, rfl, ?_⟩
          rw [take_snoc hpk, hits (by rw [hf]; exact hb)]
          exact StrsAre.snoc hs
        · repeat' wtm_at "t"
          exact ⟨_, .refl _, _, _, rfl, rfl, nexts (by rw [hf]; exact hb)⟩
      · have hi0 : i ≠ 0 := by simp at hi; omega
        repeat' wtm_at "t"
        have hf : fmHit i a b = (Builtin.bitAnd a b == b) := by unfold fmHit; rw [if_neg hi0]
        refine split_bool (fun hb => ?_) (fun hb => ?_)
        · repeat' (first | wtm_at "append" | wtm_at "t")
          wtm_at "app1"
          repeat' wtm_at "t"
          refine T.brk ?_
          repeat' wtm_at "t"
          refine ⟨(pm, lst (vs ++ [.str ch tc1]) (ep + 1)) :: (I, o) :: (a₁, tup [.int (i : Nat) t₁, .ref ta]) :: (g ++ led), by wtm_at "perm", vs ++ [.str ch tc1], ep + 1, (I, o) :: (a₁, tup [.int (i : Nat) t₁, .ref ta]) :: g, _, _, _, _, rfl, rfl, ?_⟩
          rw [take_snoc hpk, hits (by rw [hf]; exact hb)]
          exact StrsAre.snoc hs
        · repeat' wtm_at "t"
          exact ⟨_, .refl _, _, _, rfl, rfl, nexts (by rw [hf]; exact hb)⟩
    · rintro m₂ l₂ ⟨o5, o6, rfl, rfl, hno⟩
      have hno' : tb.find? (fun p => fmHit i a p.1) = none := by
        rw [List.find?_eq_none]; intro q hq
        rw [hno q (by rw [hlen, List.take_length]; exact hq)]; exact Bool.false_ne_true
      repeat' wtm_at "t"
      refine split_bool (fun hi => ?_) (fun hi => ?_)
      · have hi0 : i = 0 := by simp at hi; omega
        repeat' (first | wtm_at "append" | wtm_at "t")
        refine T.str fun t₂ => ?_
        repeat' wtm_at "t"
        wtm_at "app1"
        repeat' wtm_at "t"
        refine ⟨(pm, lst (vs ++ [.str "?" t₂]) (ep + 1)) :: (a₁, tup [.int (i : Nat) t₁, .ref ta]) :: (g ++ led), by wtm_at "perm", vs ++ [.str "?" t₂], ep + 1, (a₁, tup [.int (i : Nat) t₁, .ref ta]) :: g, _, _, _, _, rfl, rfl, ?_⟩
        have : fmPick i a tb = "?" := by unfold fmPick; rw [hno', hi0]; rfl
        rw [take_snoc hpk, this]
        exact StrsAre.snoc hs
      · have hi0 : i ≠ 0 := by simp at hi; omega
        repeat' (first | wtm_at "append" | wtm_at "t")
        refine T.str fun t₂ => ?_
        repeat' wtm_at "t"
        wtm_at "app1"
        repeat' wtm_at "t"
        refine ⟨(pm, lst (vs ++ [.str "-" t₂]) (ep + 1)) :: (a₁, tup [.int (i : Nat) t₁, .ref ta]) :: (g ++ led), by wtm_at "perm", vs ++ [.str "-" t₂], ep + 1, (a₁, tup [.int (i : Nat) t₁, .ref ta]) :: g, _, _, _, _, rfl, rfl, ?_⟩
        have : fmPick i a tb = "-" := by unfold fmPick; rw [hno', if_neg hi0]; rfl
        rw [take_snoc hpk, this]
        exact StrsAre.snoc hs
  · rintro m₁ l₁ ⟨vs, ep, g, o1, o2, o3, o4, rfl, rfl, hs⟩
    have hs' : StrsAre vs (fmSigns a) := by simpa [List.take_of_length_le (show (fmSigns a).length ≤ fmRefs.length from Nat.le_refl 10)] using hs
    repeat' wtm_at "t"
    refine T.mcall (by kernel_rfl) (by kernel_rfl) ?_
    refine T.str fun t₂ => ?_
    refine T.gm_join ?_
    refine T.cwb ?_
    repeat' wtm_at "t"
    refine T.join (.head _) hs' (by decide) ?_ fun t' => by
      repeat wtm_at "un"
      exact ⟨_, Sub.cons (Sub.app (Sub.refl _)), h _⟩
    have : ∀ y ∈ fmSigns a, y.length ≤ 1 := fmSigns_len a
    exact small_sum this (by show 10 ≤ 1000; decide)
end
-- TX
theorem str_empty {x : Str} (h : x.length = 0) : x = ⟨#[]⟩ := by
  cases x with
  | mk cps =>
    have : cps.size = 0 := h
    rw [Array.size_eq_zero_iff.mp this]
section
variable {c : Cx} {m : Loc} {led : Led} {X : Value → Loc → Led → Prop} {Q : Value → Loc → Led → Prop} {env : Env}
theorem T.ifexp {test body orelse : Expr} {pos : Pos} (h : T c m led (isTrue test env (eval test env)) (fun b m₁ l₁ => if b = true then T c m₁ l₁ (eval body env) Q X else T c m₁ l₁ (eval orelse env) Q X) X) :
    T c m led (eval (.IfExp test body orelse pos) env) Q X := .mk fun hp tk R => wpAny_IfExp (then_wp (h.run hp tk R) fun b _ _ _ _ R₁ q₁ => by cases b <;> exact q₁.run _ _ R₁)
/-- two written texts: one value -/
theorem T.ifexp_cc {test : Expr} {x y : Str} {k k' : Nat} {p p' pos : Pos} (h : T c m led (isTrue test env (eval test env)) (fun b m₁ l₁ => ∀ t, Q (.str (if b = true then x else y) t) m₁ l₁) X) :
    T c m led (eval (.IfExp test (.Constant (.str x) k p) (.Constant (.str y) k' p') pos) env) Q X :=
  T.ifexp (T.mono h fun b m' l' q => by
    cases b with
    | true => rw [if_pos rfl]; exact T.str fun t => by have := q t; rw [if_pos rfl] at this; exact this
    | false => rw [if_neg Bool.false_ne_true]; exact T.str fun t => by have := q t; rw [if_neg Bool.false_ne_true] at this; exact this)
theorem T.truth {e : Expr} {whole : Sem Value} {Q : Bool → Loc → Led → Prop} (he : isTrue e env whole = (do let v ← whole; standAt e.pos; holding [v] (truthy v)))
    (h : T c m led whole (fun v m₁ l₁ => T c m₁ l₁ (truthy v) Q X) X) : T c m led (isTrue e env whole) Q X := .mk fun hp tk R => isTrue_plain (then_wp (h.run hp tk R) fun _ _ _ _ _ R₁ q₁ => q₁.run _ _ R₁) he
theorem T.isNot {x : Expr} {pos : Pos} {whole : Sem Value} {Q : Bool → Loc → Led → Prop} (h : T c m led (isTrue x env (eval x env)) (fun b => Q (!b)) X) : T c m led (isTrue (.UnaryOp .Not x pos) env whole) Q X := .mk fun hp tk R =>
  isTrue_not (then_wp (h.run hp tk R) fun _ _ _ _ _ R₁ q₁ => post_ok R₁ q₁)
theorem T.and0 {pos : Pos} {whole : Sem Value} {Q : Bool → Loc → Led → Prop} (h : Q true m led) : T c m led (isTrue (.BoolOp .And [] pos) env whole) Q X := .mk fun hp tk R => isTrue_and_nil (post_ok R h)
theorem T.or0 {pos : Pos} {whole : Sem Value} {Q : Bool → Loc → Led → Prop} (h : Q false m led) : T c m led (isTrue (.BoolOp .Or [] pos) env whole) Q X := .mk fun hp tk R => isTrue_or_nil (post_ok R h)
theorem T.and1 {x : Expr} {rest : List Expr} {pos : Pos} {whole : Sem Value} {Q : Bool → Loc → Led → Prop} (h : T c m led (isTrue x env (eval x env)) (fun b m₁ l₁ => if b = true then T c m₁ l₁ (isTrue (.BoolOp .And rest pos) env whole) Q X else Q false m₁ l₁) X) :
    T c m led (isTrue (.BoolOp .And (x :: rest) pos) env whole) Q X := .mk fun hp tk R => isTrue_and (then_wp (h.run hp tk R) fun b _ _ _ _ R₁ q₁ => by cases b; exact post_ok R₁ q₁; exact q₁.run _ _ R₁)
theorem T.or1 {x : Expr} {rest : List Expr} {pos : Pos} {whole : Sem Value} {Q : Bool → Loc → Led → Prop} (h : T c m led (isTrue x env (eval x env)) (fun b m₁ l₁ => if b = true then Q true m₁ l₁ else T c m₁ l₁ (isTrue (.BoolOp .Or rest pos) env whole) Q X) X) :
    T c m led (isTrue (.BoolOp .Or (x :: rest) pos) env whole) Q X := .mk fun hp tk R => isTrue_or (then_wp (h.run hp tk R) fun b _ _ _ _ R₁ q₁ => by cases b; exact q₁.run _ _ R₁; exact post_ok R₁ q₁)
theorem T.sadd {x y : Str} {t u : Tok} (hsz : x.length + y.length ≤ sizeLine) (h : ∀ t, Q (.str (x ++ y) t) m led) : T c m led (binaryOp .Add (.str x t) (.str y u)) Q X := .mk fun hp tk R => by
  refine P.add_str ?_
  by_cases hx : x.length = 0
  · have e : x ++ y = y := by rw [str_empty hx]; exact Str.empty_append y
    rw [if_pos (by simpa using hx)]
    exact post_ok R (by have := h u; rw [e] at this; exact this)
  · rw [if_neg (by simpa using hx)]
    by_cases hy : y.length = 0
    · have e : x ++ y = x := by rw [str_empty hy]; exact Str.append_empty x
      rw [if_pos (by simpa using hy)]
      exact post_ok R (by have := h t; rw [e] at this; exact this)
    · rw [if_neg (by simpa using hy)]
      exact ⟨by rw [Str.length_append]; exact hsz, post_ok (tk := tk + 1) R (h _)⟩
theorem T.sitem {value slice : Expr} {x : Str} {t u : Tok} {k : Nat} {ch : Nat} (hk : k < 2 ^ 60) (hc : x.cps[k]? = some ch) (hs : subscripted slice false (.str x t) (.int (k : Nat) u) = operate [.str x t, .int (k : Nat) u] (getItem (.str x t) (.int (k : Nat) u)))
    (h : ∀ t, Q (.str ⟨#[ch]⟩ t) m led) : T c m led (subscriptTail value slice (.str x t) (.int (k : Nat) u)) Q X := .mk fun hp tk R =>
  tail_any (typeIs_str _ _ _) F.slot_str_getitem.lookup (P.getItem_str (by simp; omega) (by
    have hlt : k < x.length := (Array.getElem?_eq_some_iff.mp hc).1
    have : seqIndex? (k : Int) x.length = some k := by unfold seqIndex?; simp; omega
    rw [this]; exact hc) (post_ok (tk := tk + 1) R (h _))) hs
theorem T.gm_upper {x : Str} {t : Tok} {pl : Sem Bool} {Q : Value × List Value → Loc → Led → Prop} (h : Q (.builtin "str.upper", [.str x t]) m led) : T c m led (getMethod (.str x t) (Str.ofString "upper") pl) Q X := .mk fun _ _ R => GM.upper (post_ok R h)
theorem T.upper {x : Str} {t : Tok} (hfit : Builtin.Str.tooLong (Txt.upper x).length = false) (h : ∀ t', Q (.str (Txt.upper x) t') m led) : T c m led (call (.builtin "str.upper") [.str x t]) Q X := .mk fun hp tk R => SC.upper hfit (post_ok (tk := tk + 1) R (h _))
end
-- F3
local macro_rules | `(tactic| wtm_at "x") => `(tactic| first
  | (with_reducible refine T.execs_cons2 fun _ _ _ _ => ?_)
  | (with_reducible refine T.execs_nil ?_)
  | (with_reducible refine T.ret ?_)
  | (with_reducible refine T.assign (by kernel_rfl) ?_)
  | (with_reducible refine T.expr (by kernel_rfl) (by kernel_rfl) ?_)
  | (with_reducible refine T.ite ?_)
  | (with_reducible refine T.binop ?_)
  | (with_reducible refine T.compare (by kernel_rfl) ?_)
  | (with_reducible refine T.test (by kernel_rfl) ?_)
  | (with_reducible refine T.truthy_bool ?_)
  | (with_reducible refine T.int ?_; intro _)
  | (with_reducible refine T.name (by kernel_rfl) (by with_unfolding_all rfl) (by kernel_rfl) (by kernel_rfl) (by with_unfolding_all rfl) ?_)
  | (with_reducible refine T.store (by kernel_rfl) (by with_unfolding_all rfl) (by kernel_rfl) ?_)
  | (with_reducible refine T.sub_script ?_)
  | (with_reducible refine T.add ?_; intro _)
  | (with_reducible refine T.sub ?_; intro _)
  | (with_reducible refine T.and ?_; intro _)
  | (with_reducible refine T.eq ?_)
  | (with_reducible refine T.ne ?_)
  | (with_reducible refine T.lt ?_)
  | (with_reducible refine T.gt ?_)
  | (with_reducible refine T.call_name (by kernel_rfl) ?_)
  | (with_reducible refine T.snil ?_)
  | (with_reducible refine T.scons ?_)
  | (with_reducible refine (by assumption : Hid _ _) _ _ _ ?_)
  | (with_reducible refine seq_ret ?_)
  | (with_reducible refine seq_brk ?_)
  | (with_reducible refine seq_cont ?_)
  | (with_reducible refine T.ifexp_cc ?_)
  | (with_reducible refine T.ifexp ?_)
  | (with_reducible refine T.mod (by decide) ?_; intro _)
  | (with_reducible refine T.fdiv (by decide) (PyProof.noPylong_small (by decide)) ?_; intro _)
  | (with_reducible refine T.str ?_; intro _))
theorem g_filemode (w : World) : nsIn (kk.heap_1 w.params) mainGlobals (Str.ofString "filemode") = some (some (.ref 251)) := by kernel_rfl
theorem g_S_ISDIR (w : World) : nsIn (kk.heap_1 w.params) mainGlobals (Str.ofString "S_ISDIR") = some (some (.ref 211)) := by kernel_rfl
def verd (a : Int) : Str := if (Builtin.bitAnd a 61440 == 16384) = true then Txt.join "" (fmSigns a) else ""
/-- one figure's three signs -/
def sgA (f : Nat) : Str := if decide (3 < f) = true then "r" else "-"
def sgB (f : Nat) : Str := if decide (1 < f % 4) = true then "w" else "-"
def sgC (f ab : Nat) (s : Str) : Str := if ab = 1 then (if f % 2 = 1 then s else Txt.upper s) else (if f % 2 = 1 then "x" else "-")
def sgStep (t : Str) (p : Nat × Nat × Str) : Str := ((t ++ sgA p.1) ++ sgB p.1) ++ sgC p.1 p.2.1 p.2.2
def sgFigs (a : Nat) : List (Nat × Nat × Str) := [(a / 64 % 8, a / 2048 % 2, "s"), (a / 8 % 8, a / 1024 % 2, "s"), (a % 8, a / 512 % 2, "t")]
def sgHead (a : Nat) : Str := ⟨#[((Str.ofString "?pc?d?b?-?l?s???").cps[a / 4096 % 16]?).getD 0]⟩
def signs (a : Nat) : Str := (sgFigs a).foldl sgStep (sgHead a)
theorem fdivN (a b : Nat) : Int.fdiv (a : Int) (b : Int) = ((a / b : Nat) : Int) := by rw [Int.fdiv_eq_ediv_of_nonneg _ (Int.natCast_nonneg b)]; rfl
theorem fmodN (a b : Nat) : Int.fmod (a : Int) (b : Int) = ((a % b : Nat) : Int) := by rw [Int.fmod_eq_emod_of_nonneg _ (Int.natCast_nonneg b)]; rfl
theorem fdm (a b d : Nat) [OfNat Int b] [OfNat Int d] (hb : (OfNat.ofNat b : Int) = ((b : Nat) : Int) := by rfl) (hd : (OfNat.ofNat d : Int) = ((d : Nat) : Int) := by rfl) : Int.fmod (Int.fdiv (a : Int) (OfNat.ofNat b : Int)) (OfNat.ofNat d : Int) = ((a / b % d : Nat) : Int) := by
  rw [hb, hd, fdivN, fmodN]
inductive SgJ (a : Nat) (t : Tok) (l0 : Led) (tv : Str) (i : Nat) (m₁ : Loc) (l₁ : Led) : Prop
  | mk (tx : Str) (tt : Tok) (o1 o2 o3 : Option Value) (hm : m₁ = [(Str.ofString "mode", some (.int (a : Nat) t)), (Str.ofString "text", some (.str tx tt)), (Str.ofString "figure", o1), (Str.ofString "above", o2), (Str.ofString "sign", o3)]) (hl : l₁ = l0) (ht : tx = tv) (hlen : tx.length ≤ 1 + 5 * i)
section
variable {c : Cx} {m : Loc} {led : Led} {X : Value → Loc → Led → Prop} {Q : Value → Loc → Led → Prop} {env : Env}
theorem verdict_T {n : Nat} (G : Gd c (n + 3)) {a : Int} {t : Tok} (h : ∀ t, Q (.str (verd a) t) m led) : T c m led (call (.ref 286) [.int a t]) Q X := by
  refine T.def [(Str.ofString "mode", some (.int a t))] G rfl (by kernel_rfl) (by kernel_rfl) (by kernel_rfl) rfl ?_
  intro c' hw G'
  repeat' wtm_at "x"
  refine T.truth (by kernel_rfl) ?_
  repeat' wtm_at "x"
  refine T.global G' (g_S_ISDIR _) rfl rfl (by kernel_rfl) (by kernel_rfl) ?_
  refine T.cw G' (by kernel_rfl) ?_
  repeat' wtm_at "x"
  refine S_ISDIR_T G' ?_
  repeat' wtm_at "x"
  refine split_bool (fun hb => ?_) (fun hb => ?_)
  · repeat' wtm_at "x"
    refine T.global G' (g_filemode _) rfl rfl (by kernel_rfl) (by kernel_rfl) ?_
    refine T.cw G' (by kernel_rfl) ?_
    repeat' wtm_at "x"
    refine filemode_T G' fun t => ?_
    repeat wtm_at "un"
    refine ⟨_, .refl _, ?_⟩
    have := h t
    unfold verd at this
    rw [if_pos hb] at this
    exact this
  · repeat' wtm_at "x"
    rename_i t'
    repeat wtm_at "un"
    refine ⟨_, .refl _, ?_⟩
    have := h t'
    unfold verd at this
    rw [hb, if_neg Bool.false_ne_true] at this
    exact this
theorem signs_T {n : Nat} (G : Gd c (n + 1)) {a : Nat} {t : Tok} (h : ∀ t, Q (.str (signs a) t) m led) : T c m led (call (.ref 298) [.int (a : Nat) t]) Q X := by
  refine T.def [(Str.ofString "mode", some (.int (a : Nat) t)), (Str.ofString "text", none), (Str.ofString "figure", none), (Str.ofString "above", none), (Str.ofString "sign", none)] G rfl (by kernel_rfl) (by kernel_rfl) (by kernel_rfl) rfl ?_
  intro c' hw G'
  repeat' wtm_at "x"
  rw [fdm a 4096 16]
  have hlt : a / 4096 % 16 < 16 := Nat.mod_lt _ (by decide)
  have hch : (Str.ofString "?pc?d?b?-?l?s???").cps[a / 4096 % 16]? = some (((Str.ofString "?pc?d?b?-?l?s???").cps[a / 4096 % 16]?).getD 0) := by
    have h16 : (Str.ofString "?pc?d?b?-?l?s???").cps.size = 16 := by decide +kernel
    rw [Array.getElem?_eq_getElem (by omega)]; rfl
  refine T.sitem (by omega) hch (by kernel_rfl) fun t₀ => ?_
  repeat' wtm_at "x"
  refine T.for (fun _ => rfl) ?_
  refine T.list (by kernel_rfl) ?_
  refine T.scons (T.tuple (by kernel_rfl) ?_)
  repeat' wtm_at "x"
  rw [fdm a 64 8, fdm a 2048 2]
  refine ⟨by show 3 ≤ sizeLine; decide, fun a1 => ?_⟩
  refine T.scons (T.tuple (by kernel_rfl) ?_)
  repeat' wtm_at "x"
  rw [fdm a 8 8, fdm a 1024 2]
  refine ⟨by show 3 ≤ sizeLine; decide, fun a2 => ?_⟩
  refine T.scons (T.tuple (by kernel_rfl) ?_)
  repeat' wtm_at "x"
  rw [show Int.fmod (a : Int) 8 = ((a % 8 : Nat) : Int) from fmodN a 8, fdm a 512 2]
  refine ⟨by show 3 ≤ sizeLine; decide, fun a3 => ?_⟩
  refine T.snil ⟨by show 3 ≤ sizeLine; decide, fun lo => ?_⟩
  refine T.iter_list (x := lo) (vs := [.ref a1, .ref a2, .ref a3]) (n := 0) G'.hdl (fun p hp => ?_) fun I oI S W hS => ?_
  · rw [List.mem_singleton.mp hp]; exact .inl (.head _)
  generalize hl0 : ((lo, lst [.ref a1, .ref a2, .ref a3] 0) :: _ : Led) = l0
  have items : ∀ (i : Nat) v, [Value.ref a1, .ref a2, .ref a3][i]? = some v → ∃ x p t1 t2 t3, v = .ref x ∧ (sgFigs a)[i]? = some p ∧ (x, tup [.int (p.1 : Nat) t1, .int (p.2.1 : Nat) t2, .str p.2.2 t3]) ∈ l0 ∧ (p.2.2 = "s" ∨ p.2.2 = "t") := by
    intro i v hv
    subst hl0
    match i, hv with
    | 0, hv => cases hv; exact ⟨a1, _, _, _, _, rfl, rfl, by wtm_at "mem", .inl rfl⟩
    | 1, hv => cases hv; exact ⟨a2, _, _, _, _, rfl, rfl, by wtm_at "mem", .inl rfl⟩
    | 2, hv => cases hv; exact ⟨a3, _, _, _, _, rfl, rfl, by wtm_at "mem", .inr rfl⟩
    | i + 3, hv => simp at hv
  have hro : (lo, lst [.ref a1, .ref a2, .ref a3] 0) ∈ l0 := by rw [← hl0]; exact .head _
  have hsub : Sub led l0 := by rw [← hl0]; exact Sub.cons (Sub.cons (Sub.cons (Sub.cons (Sub.refl _))))
  refine TC.for W hS (fun i m₁ l₁ => SgJ a t l0 (((sgFigs a).take i).foldl sgStep (sgHead a)) i m₁ l₁) ?_ ?_ ?_ ?_
  · rintro i m₁ l₁ ⟨_, _, _, _, _, _, rfl, _⟩ p hp
    rw [List.mem_singleton.mp hp]; exact .inl hro
  · exact ⟨_, _, _, _, _, rfl, rfl, rfl, by show 1 ≤ _; omega⟩
  · rintro i v o m₁ l₁ hi hv ⟨tx, tt, o1, o2, o3, rfl, rfl, htx, hlen⟩
    obtain ⟨x, ⟨f, ab, sg⟩, t1, t2, t3, rfl, hp, hm, hsg⟩ := items i v hv
    have hi3 : i < 3 := hi
    refine T.asTup G'.hdl (vs := [.int (f : Nat) t1, .int (ab : Nat) t2, .str sg t3]) (fun p hp => ?_) rfl rfl rfl ?_
    · rw [List.mem_singleton.mp hp]; exact .inl (.tail _ hm)
    refine T.inOrder (T.asName ?_)
    repeat' wtm_at "x"
    refine T.inOrder (T.asName ?_)
    repeat' wtm_at "x"
    refine T.inOrder (T.asName ?_)
    repeat' wtm_at "x"
    refine T.inOrder0 ?_
    repeat' wtm_at "x"
    have eA : (if decide ((3 : Int) < (f : Int)) = true then Str.ofString "r" else Str.ofString "-") = sgA f := by
      unfold sgA; rw [show decide ((3 : Int) < (f : Int)) = decide (3 < f) from decide_eq_decide.mpr (by omega)]
    have eB : (if decide ((1 : Int) < Int.fmod (f : Int) 4) = true then Str.ofString "w" else Str.ofString "-") = sgB f := by
      unfold sgB; rw [show Int.fmod (f : Int) 4 = ((f % 4 : Nat) : Int) from fmodN f 4, show decide ((1 : Int) < ((f % 4 : Nat) : Int)) = decide (1 < f % 4) from decide_eq_decide.mpr (by omega)]
    have lA : (sgA f).length = 1 := by unfold sgA; split <;> rfl
    have lB : (sgB f).length = 1 := by unfold sgB; split <;> rfl
    have hsl : sizeLine = 16777216 := rfl
    rw [eA]
    intro t4
    refine T.sadd (by omega) fun t5 => ?_
    repeat' wtm_at "x"
    rw [eB]
    intro t6
    refine T.sadd (by rw [Str.length_append]; omega) fun t7 => ?_
    repeat' wtm_at "x"
    have fin : ∀ (C : Str) (tz : Tok), C = sgC f ab sg → C.length ≤ 3 → ∃ l', ((I, o) :: l').Perm ((I, o) :: l₁) ∧ SgJ a t l₁ (((sgFigs a).take (i + 1)).foldl sgStep (sgHead a)) (i + 1) (setL (Str.ofString "text") (.str (((tx ++ sgA f) ++ sgB f) ++ C) tz) (setL (Str.ofString "text") (.str ((tx ++ sgA f) ++ sgB f) t7) (setL (Str.ofString "sign") (Value.str sg t3) (setL (Str.ofString "above") (Value.int (↑ab) t2) (setL (Str.ofString "figure") (Value.int (↑f) t1) [(Str.ofString "mode", some (Value.int (↑a) t)), (Str.ofString "text", some (Value.str tx tt)), (Str.ofString "figure", o1), (Str.ofString "above", o2), (Str.ofString "sign", o3)]))))) l' := fun C tz hC hCl => by
      refine ⟨l₁, .refl _, _, _, _, _, _, rfl, rfl, ?_, ?_⟩
      · rw [take_snoc hp, List.foldl_append, ← htx, hC]; rfl
      · rw [Str.length_append, Str.length_append, Str.length_append]; omega
    have hab : ((ab : Int) == 1) = decide (ab = 1) := by by_cases h1 : ab = 1 <;> simp [h1]; omega
    have hod : (Int.fmod (f : Int) 2 == 1) = decide (f % 2 = 1) := by
      rw [show Int.fmod (f : Int) 2 = ((f % 2 : Nat) : Int) from fmodN f 2]
      by_cases h1 : f % 2 = 1 <;> simp [h1]; omega
    rw [hab]
    refine split_bool (fun h1 => ?_) (fun h1 => ?_)
    · have h1' : ab = 1 := by simpa using h1
      repeat' wtm_at "x"
      rw [hod]
      refine split_bool (fun h2 => ?_) (fun h2 => ?_)
      · have h2' : f % 2 = 1 := by simpa using h2
        have hC : sg = sgC f ab sg := by unfold sgC; rw [if_pos h1', if_pos h2']
        have hCl : sg.length ≤ 3 := by rcases hsg with e | e <;> rw [show sg = _ from e] <;> decide
        repeat' wtm_at "x"
        refine T.sadd (by rw [Str.length_append, Str.length_append]; omega) fun tz => ?_
        repeat' wtm_at "x"
        exact fin _ tz hC hCl
      · have h2' : ¬ f % 2 = 1 := by simpa using h2
        have hC : Txt.upper sg = sgC f ab sg := by unfold sgC; rw [if_pos h1', if_neg h2']
        have hCl : (Txt.upper sg).length ≤ 3 := by rcases hsg with e | e <;> rw [show sg = _ from e] <;> decide +kernel
        refine T.mcall (by kernel_rfl) (by kernel_rfl) ?_
        repeat' wtm_at "x"
        refine T.gm_upper ?_
        refine T.cwb ?_
        repeat' wtm_at "x"
        refine T.upper (by unfold Builtin.Str.tooLong; exact decide_eq_false (by omega)) fun t8 => ?_
        refine T.sadd (by rw [Str.length_append, Str.length_append]; omega) fun tz => ?_
        repeat' wtm_at "x"
        exact fin _ tz hC hCl
    · have h1' : ¬ ab = 1 := by simpa using h1
      repeat' wtm_at "x"
      rw [hod]
      intro t8
      have hC : (if decide (f % 2 = 1) = true then Str.ofString "x" else Str.ofString "-") = sgC f ab sg := by unfold sgC; rw [if_neg h1']; simp only [decide_eq_true_eq]
      have hCl : (if decide (f % 2 = 1) = true then Str.ofString "x" else Str.ofString "-").length ≤ 3 := by split <;> decide
      refine T.sadd (by rw [Str.length_append, Str.length_append]; omega) fun tz => ?_
      repeat' wtm_at "x"
      exact fin _ tz hC hCl
  · rintro m₁ l₁ ⟨tx, tt, o1, o2, o3, rfl, rfl, htx, hlen⟩
    repeat' wtm_at "x"
    repeat wtm_at "un"
    refine ⟨_, hsub, ?_⟩
    have : tx = signs a := htx
    rw [this]
    exact h _
end
-- P1
theorem bandN (a b : Nat) : Builtin.bitAnd (a : Int) (b : Int) = ((a &&& b : Nat) : Int) := rfl
theorem and_mod (a i : Nat) : a &&& (2 ^ i - 1) = a % 2 ^ i := Nat.and_two_pow_sub_one_eq_mod a i
theorem and_hi (a : Nat) : a &&& 61440 = 4096 * (a / 4096 % 16) := by
  have h1 : 61440 = 15 <<< 12 := rfl
  have : a &&& 61440 = ((a >>> 12) &&& 15) <<< 12 := by
    apply Nat.eq_of_testBit_eq
    intro j
    rw [h1]
    simp only [Nat.testBit_and, Nat.testBit_shiftLeft, Nat.testBit_shiftRight]
    by_cases hj : j ≥ 12
    · have e : 12 + (j - 12) = j := by omega
      simp [hj, e]
    · simp [hj]
  rw [this, Nat.shiftRight_eq_div_pow, and_mod (a / 2 ^ 12) 4, Nat.shiftLeft_eq]
  omega
theorem hit_bits (a k : Nat) (hk : k < 2 ^ 16) : (a &&& k == k) = ((List.range 16).filter (k.testBit ·)).all (a.testBit ·) := by
  rw [Bool.eq_iff_iff, beq_iff_eq, List.all_eq_true]
  constructor
  · intro h j hj
    rw [List.mem_filter] at hj
    rw [← h, Nat.testBit_and] at hj
    exact (Bool.and_eq_true_iff.mp hj.2).1
  · intro h
    apply Nat.eq_of_testBit_eq
    intro j
    rw [Nat.testBit_and]
    cases hb : k.testBit j with
    | false => simp
    | true =>
      have hj : j < 16 := by
        apply Nat.lt_of_not_le
        intro hc
        have : k < 2 ^ j := Nat.lt_of_lt_of_le hk (Nat.pow_le_pow_right (by decide) hc)
        rw [Nat.testBit_lt_two_pow this] at hb
        cases hb
      rw [h j (by rw [List.mem_filter]; exact ⟨by simpa using hj, hb⟩)]; rfl
theorem hitI (i a : Nat) (k : Nat) (hi : i ≠ 0) (hk : k < 2 ^ 16) : fmHit i (a : Int) (k : Int) = ((List.range 16).filter (k.testBit ·)).all (a.testBit ·) := by
  unfold fmHit
  rw [if_neg hi, bandN, ← hit_bits a k hk]
  rw [Bool.eq_iff_iff, beq_iff_eq, beq_iff_eq]
  omega
theorem hit0 (a k : Nat) : fmHit 0 (a : Int) (k : Int) = (4096 * (a / 4096 % 16) == k) := by
  unfold fmHit
  rw [if_pos rfl, show Builtin.bitAnd (a : Int) 61440 = ((a &&& 61440 : Nat) : Int) from bandN a 61440, and_hi]
  rw [Bool.eq_iff_iff, beq_iff_eq, beq_iff_eq]
  omega
/-- the ten signs by bits -/
def pickB (bs : List (Bool × Str)) (d : Str) : Str := ((bs.find? (·.1)).map (·.2)).getD d
theorem pick_B (i a : Nat) (hi : i ≠ 0) (tb : List (Nat × Str)) (hk : ∀ p ∈ tb, p.1 < 2 ^ 16) : fmPick i (a : Int) (tb.map fun p => ((p.1 : Int), p.2)) = pickB (tb.map fun p => (((List.range 16).filter (p.1.testBit ·)).all (a.testBit ·), p.2)) "-" := by
  unfold fmPick pickB
  rw [if_neg hi]
  congr 1
  induction tb with
  | nil => rfl
  | cons p r ih =>
    simp only [List.map_cons, List.find?_cons]
    rw [hitI i a p.1 hi (hk p (.head _))]
    cases ((List.range 16).filter (p.1.testBit ·)).all (a.testBit ·) with
    | true => rfl
    | false => exact ih fun q hq => hk q (.tail _ hq)
theorem tb_eq (a j : Nat) : a.testBit j = decide (a / 2 ^ j % 2 = 1) := Nat.testBit_eq_decide_div_mod_eq
theorem pick1 (i a : Nat) (hi : i ≠ 0) (k j : Nat) (hk : k < 2 ^ 16) (hb : (List.range 16).filter (k.testBit ·) = [j]) (x : Str) : fmPick i (a : Int) [((k : Int), x)] = if a / 2 ^ j % 2 = 1 then x else "-" := by
  have := pick_B i a hi [(k, x)] (by intro p hp; rw [List.mem_singleton.mp hp]; exact hk)
  simp only [List.map_cons, List.map_nil] at this
  rw [this, hb]
  simp only [List.all_cons, List.all_nil, Bool.and_true, tb_eq, pickB, List.find?_cons]
  by_cases h : a / 2 ^ j % 2 = 1 <;> simp [h]
theorem pick3 (i a : Nat) (hi : i ≠ 0) (k k' k'' j j' : Nat) (hk : k < 2 ^ 16) (hk' : k' < 2 ^ 16) (hk'' : k'' < 2 ^ 16) (hb : (List.range 16).filter (k.testBit ·) = [j, j']) (hb' : (List.range 16).filter (k'.testBit ·) = [j']) (hb'' : (List.range 16).filter (k''.testBit ·) = [j]) (x y z : Str) :
    fmPick i (a : Int) [((k : Int), x), ((k' : Int), y), ((k'' : Int), z)] = if a / 2 ^ j' % 2 = 1 then (if a / 2 ^ j % 2 = 1 then x else y) else (if a / 2 ^ j % 2 = 1 then z else "-") := by
  have := pick_B i a hi [(k, x), (k', y), (k'', z)] (by intro p hp; simp at hp; rcases hp with rfl | rfl | rfl <;> assumption)
  simp only [List.map_cons, List.map_nil] at this
  rw [this, hb, hb', hb'']
  simp only [List.all_cons, List.all_nil, Bool.and_true, tb_eq, pickB, List.find?_cons]
  by_cases h : a / 2 ^ j % 2 = 1 <;> by_cases h' : a / 2 ^ j' % 2 = 1 <;> simp [h, h']
def headTab : List (Nat × Str) := [(40960, "l"), (49152, "s"), (32768, "-"), (24576, "b"), (16384, "d"), (8192, "c"), (4096, "p")]
theorem head_fin : ∀ x, x < 16 → ((headTab.find? fun p => 4096 * x == p.1).map (·.2)).getD (Str.ofString "?") = (⟨#[((Str.ofString "?pc?d?b?-?l?s???").cps[x]?).getD 0]⟩ : Str) := by decide +kernel
theorem pick0 (a : Nat) : fmPick 0 (a : Int) (headTab.map fun p => ((p.1 : Int), p.2)) = sgHead a := by
  have hx : a / 4096 % 16 < 16 := Nat.mod_lt _ (by decide)
  unfold sgHead
  rw [← head_fin _ hx]
  unfold fmPick
  rw [if_pos rfl]
  congr 1
  generalize headTab = tb
  induction tb with
  | nil => rfl
  | cons p r ih =>
    simp only [List.map_cons, List.find?_cons]
    rw [hit0 a p.1]
    cases (4096 * (a / 4096 % 16) == p.1) with
    | true => rfl
    | false => exact ih
theorem up_s : Txt.upper "s" = "S" := by decide +kernel
theorem up_t : Txt.upper "t" = "T" := by decide +kernel
theorem A_eq (a j : Nat) (k : Nat) (h : (a / 2 ^ j % 2 = 1) ↔ 3 < k) : (if a / 2 ^ j % 2 = 1 then (Str.ofString "r") else Str.ofString "-") = sgA k := by
  unfold sgA
  by_cases h' : 3 < k <;> simp [h', h]
theorem B_eq (a j : Nat) (k : Nat) (h : (a / 2 ^ j % 2 = 1) ↔ 1 < k % 4) : (if a / 2 ^ j % 2 = 1 then (Str.ofString "w") else Str.ofString "-") = sgB k := by
  unfold sgB
  by_cases h' : 1 < k % 4 <;> simp [h', h]
theorem dgA (b : Nat) : (b / 4 % 2 = 1) ↔ 3 < b % 8 := by omega
theorem dgB (b : Nat) : (b / 2 % 2 = 1) ↔ 1 < b % 8 % 4 := by omega
theorem dgC (b : Nat) : b % 8 % 2 = b % 2 := by omega
theorem dgD (a m j r : Nat) (h : m * j = r) : a / r = a / m / j := by rw [← h, Nat.div_div_eq_div_mul]
theorem fm_list (a : Nat) : fmSigns (a : Int) = [sgHead a, sgA (a / 64 % 8), sgB (a / 64 % 8), sgC (a / 64 % 8) (a / 2048 % 2) "s", sgA (a / 8 % 8), sgB (a / 8 % 8), sgC (a / 8 % 8) (a / 1024 % 2) "s", sgA (a % 8), sgB (a % 8), sgC (a % 8) (a / 512 % 2) "t"] := by
  have e0 := pick0 a
  have e1 := pick1 1 a (by decide) 256 8 (by decide) (by decide) "r"
  have e2 := pick1 2 a (by decide) 128 7 (by decide) (by decide) "w"
  have e3 := pick3 3 a (by decide) 2112 2048 64 6 11 (by decide) (by decide) (by decide) (by decide) (by decide) (by decide) "s" "S" "x"
  have e4 := pick1 4 a (by decide) 32 5 (by decide) (by decide) "r"
  have e5 := pick1 5 a (by decide) 16 4 (by decide) (by decide) "w"
  have e6 := pick3 6 a (by decide) 1032 1024 8 3 10 (by decide) (by decide) (by decide) (by decide) (by decide) (by decide) "s" "S" "x"
  have e7 := pick1 7 a (by decide) 4 2 (by decide) (by decide) "r"
  have e8 := pick1 8 a (by decide) 2 1 (by decide) (by decide) "w"
  have e9 := pick3 9 a (by decide) 513 512 1 0 9 (by decide) (by decide) (by decide) (by decide) (by decide) (by decide) "t" "T" "x"
  rw [A_eq a 8 (a / 64 % 8) (by rw [dgD a 64 4 (2 ^ 8) rfl]; exact dgA _)] at e1
  rw [B_eq a 7 (a / 64 % 8) (by rw [dgD a 64 2 (2 ^ 7) rfl]; exact dgB _)] at e2
  rw [A_eq a 5 (a / 8 % 8) (by rw [dgD a 8 4 (2 ^ 5) rfl]; exact dgA _)] at e4
  rw [B_eq a 4 (a / 8 % 8) (by rw [dgD a 8 2 (2 ^ 4) rfl]; exact dgB _)] at e5
  rw [A_eq a 2 (a % 8) (dgA a)] at e7
  rw [B_eq a 1 (a % 8) (dgB a)] at e8
  have c3 : (if a / 2 ^ 11 % 2 = 1 then (if a / 2 ^ 6 % 2 = 1 then (Str.ofString "s") else Str.ofString "S") else (if a / 2 ^ 6 % 2 = 1 then Str.ofString "x" else Str.ofString "-")) = sgC (a / 64 % 8) (a / 2048 % 2) "s" := by
    unfold sgC
    rw [up_s, show a / 64 % 8 % 2 = a / 2 ^ 6 % 2 from dgC (a / 64)]
  have c6 : (if a / 2 ^ 10 % 2 = 1 then (if a / 2 ^ 3 % 2 = 1 then (Str.ofString "s") else Str.ofString "S") else (if a / 2 ^ 3 % 2 = 1 then Str.ofString "x" else Str.ofString "-")) = sgC (a / 8 % 8) (a / 1024 % 2) "s" := by
    unfold sgC
    rw [up_s, show a / 8 % 8 % 2 = a / 2 ^ 3 % 2 from dgC (a / 8)]
  have c9 : (if a / 2 ^ 9 % 2 = 1 then (if a / 2 ^ 0 % 2 = 1 then (Str.ofString "t") else Str.ofString "T") else (if a / 2 ^ 0 % 2 = 1 then Str.ofString "x" else Str.ofString "-")) = sgC (a % 8) (a / 512 % 2) "t" := by
    unfold sgC
    rw [up_t, show a % 8 % 2 = a / 2 ^ 0 % 2 by rw [show a / 2 ^ 0 = a from Nat.div_one a]; exact dgC a]
  rw [c3] at e3
  rw [c6] at e6
  rw [c9] at e9
  rw [← e0, ← e1, ← e2, ← e3, ← e4, ← e5, ← e6, ← e7, ← e8, ← e9]
  rfl
theorem glue_nil (x y : Str) : (⟨x.cps ++ (Str.ofString "").cps ++ y.cps⟩ : Str) = x ++ y := by
  have : (Str.ofString "").cps = #[] := by decide +kernel
  rw [this, Array.append_empty]; rfl
theorem signs_eq (a : Nat) : Txt.join "" (fmSigns (a : Int)) = signs a := by
  rw [fm_list]
  have e : (Str.ofString "").cps = #[] := by decide +kernel
  unfold Txt.join Builtin.Str.glued signs sgFigs
  simp only [List.drop_succ_cons, List.drop_zero, List.foldl_cons, List.foldl_nil, List.headD_cons, e, Array.append_empty, sgStep]
  rfl
theorem isdir_eq (a : Nat) : (Builtin.bitAnd (a : Int) 61440 == 16384) = (a / 4096 % 16 == 4) := by
  rw [show Builtin.bitAnd (a : Int) 61440 = ((a &&& 61440 : Nat) : Int) from bandN a 61440, and_hi]
  rw [Bool.eq_iff_iff, beq_iff_eq, beq_iff_eq]
  omega
theorem imode_eq (a : Nat) : Builtin.bitAnd (a : Int) 4095 = ((a % 4096 : Nat) : Int) := by
  rw [show Builtin.bitAnd (a : Int) 4095 = ((a &&& 4095 : Nat) : Int) from bandN a 4095, show (4095 : Nat) = 2 ^ 12 - 1 from rfl, and_mod]
-- F4
section
variable {c : Cx} {m : Loc} {led : Led} {X : Value → Loc → Led → Prop} {Q : Value → Loc → Led → Prop} {env : Env}
theorem T.sne {x y : Str} {t u : Tok} (h : Q (.bool (decide (x ≠ y))) m led) : T c m led (compareOp .NotEq (.str x t) (.str y u)) Q X := .mk fun hp tk R => P.ne_str (by
  have e : (x.cps.toList != y.cps.toList) = decide (x ≠ y) := by
    by_cases hxy : x = y
    · subst hxy; simp
    · have : x.cps.toList ≠ y.cps.toList := fun q => hxy (by cases x; cases y; simp only [Str.mk.injEq]; exact Array.toList_inj.mp q)
      simp [hxy, this]
  rw [e]; exact post_ok R h)
theorem T.bne {x y : Bool} (h : Q (.bool (x != y)) m led) : T c m led (compareOp .NotEq (.bool x) (.bool y)) Q X := .mk fun hp tk R => ne_bool (post_ok R h)
theorem T.cbool {b : Bool} {k : Nat} {pos : Pos} (h : Q (.bool b) m led) : T c m led (eval (.Constant (.bool b) k pos) env) Q X := .mk fun hp tk R => wpAny_Constant_bool (post_ok R h)
theorem T.cnone {k : Nat} {pos : Pos} (h : Q .none m led) : T c m led (eval (.Constant .none k pos) env) Q X := .mk fun hp tk R => wpAny_Constant_none (post_ok R h)
end
theorem g_signs (w : World) : nsIn (kk.heap_1 w.params) mainGlobals (Str.ofString "_law_signs") = some (some (.ref 298)) := by kernel_rfl
theorem g_S_IMODE (w : World) : nsIn (kk.heap_1 w.params) mainGlobals (Str.ofString "S_IMODE") = some (some (.ref 197)) := by kernel_rfl
/-- a list of pairs of ints in the ledger -/
def Pairs (led : Led) (vs : List Value) (ms : List (Nat × Nat)) : Prop := vs.length = ms.length ∧ ∀ (i : Nat) (p : Nat × Nat), ms[i]? = some p → ∃ (x : Addr) (t t' : Tok), vs[i]? = some (Value.ref x) ∧ (x, tup [.int (p.1 : Nat) t, .int (p.2 : Nat) t']) ∈ led
theorem Pairs.mono {led led' : Led} {vs : List Value} {ms : List (Nat × Nat)} (h : Pairs led vs ms) (hs : ∀ p ∈ led, p ∈ led') : Pairs led' vs ms := ⟨h.1, fun i p hp => let ⟨x, t, t', a, b⟩ := h.2 i p hp; ⟨x, t, t', a, hs _ b⟩⟩
theorem Pairs.at {led : Led} {vs : List Value} {ms : List (Nat × Nat)} (h : Pairs led vs ms) {i : Nat} {v : Value} (hv : vs[i]? = some v) : ∃ (p : Nat × Nat) (x : Addr) (t t' : Tok), ms[i]? = some p ∧ v = .ref x ∧ (x, tup [.int (p.1 : Nat) t, .int (p.2 : Nat) t']) ∈ led := by
  have hi : i < ms.length := h.1 ▸ (List.getElem?_eq_some_iff.mp hv).1
  obtain ⟨x, t, t', a, b⟩ := h.2 i ms[i] (by simp [hi])
  rw [hv] at a
  cases a
  exact ⟨ms[i], x, t, t', by simp [hi], rfl, b⟩
section
variable {c : Cx} {m : Loc} {led : Led} {X : Value → Loc → Led → Prop} {Q : Value → Loc → Led → Prop} {env : Env}
theorem modes_right_T {n : Nat} (G : Gd c (n + 3)) {l : Addr} {vs : List Value} {e : Nat} {ms : List (Nat × Nat)} (hl : (l, lst vs e) ∈ led) (hp : Pairs led vs ms) (h : Q (.bool true) m led) : T c m led (call (.ref 322) [.ref l]) Q X := by
  refine T.def [(Str.ofString "modes", some (.ref l)), (Str.ofString "node", none), (Str.ofString "mode", none)] G rfl (by kernel_rfl) (by kernel_rfl) (by kernel_rfl) rfl ?_
  intro c' hw G'
  repeat' wtm_at "x"
  refine T.for (fun _ => rfl) ?_
  repeat' wtm_at "x"
  refine T.iter_list (x := l) (vs := vs) (n := e) G'.hdl (fun p hp => ?_) fun I oI S W hS => ?_
  · rw [List.mem_singleton.mp hp]; exact .inl hl
  refine TC.for W hS (fun i m₁ l₁ => ∃ o1 o2, m₁ = [(Str.ofString "modes", some (.ref l)), (Str.ofString "node", o1), (Str.ofString "mode", o2)] ∧ l₁ = led) ?_ ?_ ?_ ?_
  · rintro i m₁ l₁ ⟨_, _, _, rfl⟩ p hp
    rw [List.mem_singleton.mp hp]; exact .inl hl
  · exact ⟨_, _, rfl, rfl⟩
  · rintro i v o m₁ l₁ hi hv ⟨o1, o2, rfl, rfl⟩
    obtain ⟨⟨nd, md⟩, x, t1, t2, hpi, rfl, hx⟩ := hp.at hv
    refine T.asTup G'.hdl (vs := [.int (nd : Nat) t1, .int (md : Nat) t2]) (fun p hp => ?_) rfl rfl rfl ?_
    · rw [List.mem_singleton.mp hp]; exact .inl (.tail _ hx)
    refine T.inOrder (T.asName ?_)
    repeat' wtm_at "x"
    refine T.inOrder (T.asName ?_)
    repeat' wtm_at "x"
    refine T.inOrder0 ?_
    repeat' wtm_at "x"
    refine T.or1 ?_
    repeat' wtm_at "x"
    refine T.global G' (g_filemode _) rfl rfl (by kernel_rfl) (by kernel_rfl) ?_
    refine T.cw G' (by kernel_rfl) ?_
    repeat' wtm_at "x"
    refine filemode_T G' fun t3 => ?_
    repeat' wtm_at "x"
    refine T.global G' (g_signs _) rfl rfl (by kernel_rfl) (by kernel_rfl) ?_
    refine T.cw G' (by kernel_rfl) ?_
    repeat' wtm_at "x"
    refine signs_T G' fun t4 => ?_
    refine T.sne ?_
    rw [show decide (Txt.join (Str.ofString "") (fmSigns (md : Int)) ≠ signs md) = false from decide_eq_false (fun q => q (signs_eq md))]
    repeat' wtm_at "x"
    rw [if_neg Bool.false_ne_true]
    refine T.or1 ?_
    repeat' wtm_at "x"
    refine T.global G' (g_S_ISDIR _) rfl rfl (by kernel_rfl) (by kernel_rfl) ?_
    refine T.cw G' (by kernel_rfl) ?_
    repeat' wtm_at "x"
    refine S_ISDIR_T G' ?_
    repeat' wtm_at "x"
    refine T.bne ?_
    rw [fdm md 4096 16, isdir_eq md, show ((((md / 4096 % 16 : Nat) : Int) == 4)) = (md / 4096 % 16 == 4) by rw [Bool.eq_iff_iff, beq_iff_eq, beq_iff_eq]; omega, bne_self_eq_false]
    repeat' wtm_at "x"
    rw [if_neg Bool.false_ne_true]
    refine T.or1 ?_
    repeat' wtm_at "x"
    refine T.global G' (g_S_IMODE _) rfl rfl (by kernel_rfl) (by kernel_rfl) ?_
    refine T.cw G' (by kernel_rfl) ?_
    repeat' wtm_at "x"
    refine S_IMODE_T G' fun t5 => ?_
    repeat' wtm_at "x"
    rw [imode_eq md, show Int.fmod (md : Int) 4096 = ((md % 4096 : Nat) : Int) from fmodN md 4096, bne_self_eq_false]
    repeat' wtm_at "x"
    rw [if_neg Bool.false_ne_true]
    refine T.or0 ?_
    rw [if_neg Bool.false_ne_true]
    repeat' wtm_at "x"
    exact ⟨_, .refl _, _, _, rfl, rfl⟩
  · rintro m₁ l₁ ⟨o1, o2, rfl, rfl⟩
    repeat' wtm_at "x"
    refine T.cbool ?_
    repeat wtm_at "un"
    exact ⟨_, .refl _, h⟩
end
-- TY
abbrev rngO (a b : Int) (t u v : Tok) : Obj := { cls := .type "range", data := .fields #[.int a t, .int b u, .int 1 v] }
section
variable {c : Cx} {m : Loc} {led : Led} {X : Value → Loc → Led → Prop} {Q : Value → Loc → Led → Prop} {env : Env}
theorem T.len {l : Addr} {vs : List Value} {e : Nat} (hl : (l, lst vs e) ∈ led) (hsz : vs.length < 2 ^ 60) (h : ∀ t, Q (.int (vs.length : Nat) t) m led) : T c m led (call (.builtin "len") [.ref l]) Q X := .mk fun hp tk R =>
  len_list (R.isList hl) (by simp; omega) (by have := h (tk + 1); exact post_ok (tk := tk + 1 + 1) R (by simpa using this))
theorem T.range1 {b : Int} {u : Tok} (h : ∀ r t v, Q (.ref r) m ((r, rngO 0 b t u v) :: led)) : T c m led (call (.type "range") [.int b u]) Q X := .mk fun hp tk R =>
  call_range_1 (post_ok (tk := tk + 1 + 1) (R.push _ rfl) (h _ _ _))
theorem T.range2 {a b : Int} {t u : Tok} (h : ∀ r v, Q (.ref r) m ((r, rngO a b t u v) :: led)) : T c m led (call (.type "range") [.int a t, .int b u]) Q X := .mk fun hp tk R =>
  call_range_2 (post_ok (tk := tk + 1) (R.push _ rfl) (h _ _))
theorem T.iter_range {r : Addr} {a b : Int} {t u v : Tok} (hh : c.A.handled = none) (hm : (r, rngO a b t u v) ∈ led) (ha : -(2 ^ 60) ≤ a) (ha' : a < 2 ^ 60) (hb : -(2 ^ 60) ≤ b) (hb' : b < 2 ^ 60)
    (h : ∀ I o S, Iter c I (b - a).toNat (fun i v => ∃ t, v = .int (a + (i : Nat)) t) [] S → S 0 o → Q (.ref I) m ((I, o) :: led)) : T c m led (pyIter (.ref r)) Q X := .mk fun hp tk R => by
  refine wpAny_pyIter_range (R.get hm) (small_one (by omega) (by omega) (by omega) (by omega)) ?_
  have W := Walks.range (prog := pw) (w := c.w) (A := c.A) hh hp.objs.size a 1 (b - a).toNat
  simp only [Int.mul_one] at W
  have It := Iter.of_walks (c := c) (ro := []) W (by intro b hb; simp at hb; exact .inl hb) (by intro p hp; cases hp)
    (fun i h st => ⟨_, _, st, rfl, by decide⟩)
  refine post_ok (R.push _ rfl) (h _ _ _ It ⟨⟨_, rfl, by decide⟩, fun h' e1 _ => ?_⟩)
  rw [rangeSize_nat] at e1
  have : (a + ((0 : Nat) : Int)) = a := by simp
  rw [this]
  have e2 : (((b - a).toNat : Int) - ((0 : Nat) : Int)) = ((b - a).toNat : Int) := by simp
  rw [e2]
  exact e1
end
theorem g_no_len (w : World) : nsIn (kk.heap_1 w.params) mainGlobals (Str.ofString "len") = some none := by kernel_rfl
theorem g_no_range (w : World) : nsIn (kk.heap_1 w.params) mainGlobals (Str.ofString "range") = some none := by kernel_rfl
theorem g_no_min (w : World) : nsIn (kk.heap_1 w.params) mainGlobals (Str.ofString "min") = some none := by kernel_rfl
theorem g_no_max (w : World) : nsIn (kk.heap_1 w.params) mainGlobals (Str.ofString "max") = some none := by kernel_rfl
theorem g_no_sum (w : World) : nsIn (kk.heap_1 w.params) mainGlobals (Str.ofString "sum") = some none := by kernel_rfl
theorem b_len : bootBuiltins (Str.ofString "len") = some (.builtin "len") := by boot_by_name
theorem b_range : bootBuiltins (Str.ofString "range") = some (.type "range") := by boot_by_name
theorem b_min : bootBuiltins (Str.ofString "min") = some (.builtin "min") := by boot_by_name
theorem b_max : bootBuiltins (Str.ofString "max") = some (.builtin "max") := by boot_by_name
theorem b_sum : bootBuiltins (Str.ofString "sum") = some (.builtin "sum") := by boot_by_name
-- F5
def chOf (k : Nat) : Str := ⟨#[((Str.ofString "abcdefghij").cps[k]?).getD 0]⟩
def pathOf (ps : List Nat) (k : Nat) : Str := if h : ps.getD k 0 < k then (pathOf ps (ps.getD k 0) ++ chOf k) ++ "/" else "/"
termination_by k
theorem pathOf_len (ps : List Nat) (k : Nat) : (pathOf ps k).length ≤ 1 + 2 * k := by
  induction k using Nat.strongRecOn with
  | ind k ih =>
    rw [pathOf]
    split
    · rename_i h
      have := ih _ h
      rw [Str.length_append, Str.length_append]
      have h1 : (chOf k).length = 1 := rfl
      have h2 : (Str.ofString "/").length = 1 := by decide +kernel
      omega
    · have h2 : (Str.ofString "/").length = 1 := by decide +kernel
      omega
section
variable {c : Cx} {m : Loc} {led : Led} {X : Value → Loc → Led → Prop} {Q : Value → Loc → Led → Prop} {env : Env}
theorem T.itemN {value slice : Expr} {l : Addr} {vs : List Value} {n : Nat} {k : Nat} {u : Tok} {v : Value} (hm : (l, lst vs n) ∈ led) (hf : k < 2 ^ 60) (hv : vs[k]? = some v)
    (hs : subscripted slice false (.ref l) (.int (k : Nat) u) = operate [.ref l, .int (k : Nat) u] (getItem (.ref l) (.int (k : Nat) u))) (h : Q v m led) : T c m led (subscriptTail value slice (.ref l) (.int (k : Nat) u)) Q X :=
  T.item hm (by omega) (by omega) (by rw [Int.toNat_natCast]; exact hv) hs h
theorem paths_T {n : Nat} (G : Gd c (n + 1)) {ps : List Nat} (H : Tree ps) (hn : ps.length ≤ 10) {l : Addr} {vs : List Value} {e : Nat} (hl : (l, lst vs e) ∈ led) (hlen : vs.length = ps.length) (hv : ∀ i : Nat, i < ps.length → ∃ t, vs[i]? = some (.int (ps.getD i 0 : Nat) t))
    (h : ∀ a us e, StrsAre us ((List.range ps.length).map (pathOf ps)) → Q (.ref a) m ((a, lst us e) :: led)) : T c m led (call (.ref 265) [.ref l]) Q X := by
  refine T.def [(Str.ofString "parents", some (.ref l)), (Str.ofString "paths", none), (Str.ofString "k", none)] G rfl (by kernel_rfl) (by kernel_rfl) (by kernel_rfl) rfl ?_
  intro c' hw G'
  have hpos := H.pos
  repeat' wtm_at "x"
  refine T.list (by kernel_rfl) ?_
  repeat' wtm_at "x"
  refine ⟨by show 1 ≤ sizeLine; decide, fun pa => ?_⟩
  repeat' wtm_at "x"
  refine T.for (fun _ => rfl) ?_
  repeat' wtm_at "x"
  refine T.bltn G' (g_no_range _) b_range (by decide) rfl rfl rfl (by kernel_rfl) (by kernel_rfl) ?_
  refine T.cwt ?_
  repeat' wtm_at "x"
  refine T.bltn G' (g_no_len _) b_len (by decide) rfl rfl rfl (by kernel_rfl) (by kernel_rfl) ?_
  refine T.cwb ?_
  repeat' wtm_at "x"
  refine T.len (by wtm_at "mem") (by omega) fun t1 => ?_
  repeat' wtm_at "x"
  refine T.range2 fun r t2 => ?_
  refine T.iter_range G'.hdl (.head _) (by omega) (by omega) (by omega) (by omega) fun I oI S W hS => ?_
  have hsl : sizeLine = 16777216 := rfl
  refine TC.for (l := (r, rngO 1 (vs.length : Nat) _ t1 t2) :: (pa, _) :: led) W hS (fun i m₁ l₁ => ∃ us ep g o1, m₁ = [(Str.ofString "parents", some (.ref l)), (Str.ofString "paths", some (.ref pa)), (Str.ofString "k", o1)] ∧ l₁.Perm ((pa, lst us ep) :: (g ++ led)) ∧ StrsAre us ((List.range (1 + i)).map (pathOf ps))) ?_ ?_ ?_ ?_
  · intro i m₁ l₁ _ p hp; cases hp
  · refine ⟨_, 0, [(r, _)], _, rfl, by wtm_at "perm", ?_⟩
    have : (List.range (1 + 0)).map (pathOf ps) = [Str.ofString "/"] := by simp [List.range_succ, pathOf]
    rw [this]
    exact .cons _ _ .nil
  · rintro i v o m₁ l₁ hi ⟨tv, rfl⟩ ⟨us, ep, g, o1, rfl, hpm, hus⟩
    have hk : 1 + i < ps.length := by omega
    have ek : (1 + ((i : Nat) : Int)) = ((1 + i : Nat) : Int) := by push_cast; rfl
    rw [ek]
    obtain ⟨t3, h3⟩ := hv (1 + i) hk
    have hlt := H.lt (1 + i) (by omega) hk
    refine T.perm (hpm.symm.cons _) ?_
    refine T.asName ?_
    repeat' (first | wtm_at "append" | wtm_at "x")
    refine T.itemN (l := l) (by wtm_at "mem") (by omega) h3 (by kernel_rfl) ?_
    have hat : ((List.range (1 + i)).map (pathOf ps))[ps.getD (1 + i) 0]? = some (pathOf ps (ps.getD (1 + i) 0)) := by
      rw [List.getElem?_map, List.getElem?_range hlt]; rfl
    obtain ⟨t4, h4⟩ := hus.at hat
    refine T.itemN (l := pa) (by wtm_at "mem") (by omega) h4 (by kernel_rfl) ?_
    repeat' wtm_at "x"
    have hch : (Str.ofString "abcdefghij").cps[1 + i]? = some (((Str.ofString "abcdefghij").cps[1 + i]?).getD 0) := by
      have h16 : (Str.ofString "abcdefghij").cps.size = 10 := by decide +kernel
      rw [Array.getElem?_eq_getElem (by omega)]; rfl
    refine T.sitem (by omega) hch (by kernel_rfl) fun t5 => ?_
    have l1 := pathOf_len ps (ps.getD (1 + i) 0)
    have l2 : (chOf (1 + i)).length = 1 := rfl
    have l3 : (Str.ofString "/").length = 1 := by decide +kernel
    have l4 : us.length = 1 + i := by rw [hus.len_eq]; simp
    refine T.sadd (by show _ + 1 ≤ _; omega) fun t6 => ?_
    repeat' wtm_at "x"
    refine T.sadd (by rw [Str.length_append]; show (_ + 1) + _ ≤ _; omega) fun t7 => ?_
    repeat' wtm_at "x"
    refine' T.append ?u ?z ?_
    (case u => wtm_at "up")
    (case z => omega)
    repeat' wtm_at "x"
    refine ⟨(pa, lst (us ++ [.str ((pathOf ps (ps.getD (1 + i) 0) ++ chOf (1 + i)) ++ "/") t7]) (ep + 1)) :: (g ++ led), .refl _, _, _, g, _, rfl, .refl _, ?_⟩
    have : (List.range (1 + (i + 1))).map (pathOf ps) = (List.range (1 + i)).map (pathOf ps) ++ [(pathOf ps (ps.getD (1 + i) 0) ++ chOf (1 + i)) ++ "/"] := by
      rw [show 1 + (i + 1) = (1 + i) + 1 by omega, List.range_succ, List.map_append, List.map_cons, List.map_nil]
      congr 2
      rw [pathOf, dif_pos hlt]
    rw [this]
    exact StrsAre.snoc hus
  · rintro m₁ l₁ ⟨us, ep, g, o1, rfl, hpm, hus⟩
    refine T.perm hpm.symm ?_
    repeat' wtm_at "x"
    have e : 1 + ((vs.length : Nat) - 1 : Int).toNat = ps.length := by omega
    rw [e] at hus
    exact ⟨_, ⟨_, .refl _, .cons_cons _ (List.sublist_append_right _ _)⟩, h pa us ep hus⟩
end
-- TZ
abbrev slcO (l u st : Value) : Obj := { cls := .type "slice", data := .fields #[l, u, st] }
section
variable {c : Cx} {m : Loc} {led : Led} {X : Value → Loc → Led → Prop} {Q : Value → Loc → Led → Prop} {env : Env}
theorem Rep.all {hp h' : Heap} (R : Rep c m led hp) (hk : ∀ b o, hp.get? b = some o → h'.get? b = some o) : Rep c m led h' := by
  obtain ⟨oL, es, ep, hL, r⟩ := R.fr.ns
  exact ⟨⟨⟨oL, es, ep, hk _ _ hL, r⟩, fun b o e => hk _ _ (R.fr.keep b o e), R.fr.above⟩, fun p hp => ⟨hk _ _ (R.news p hp).1, (R.news p hp).2⟩, R.nd, R.outs.go (fun b x _ _ e => hk b x e) fun b hb => .inl hb⟩
theorem Rep.new {hp h' : Heap} {o : Obj} (R : Rep c m led hp) (F : Fr (full hp c.L led) c.L h' (fun y => lookL y m)) (N : News (full hp c.L led) c.L h' ((hp.objs.size, o) :: led)) : Rep c m ((hp.objs.size, o) :: led) h' := by
  refine R.of_full F N ?_
  rw [List.map_cons, List.nodup_cons]
  refine ⟨fun hm => ?_, R.nd⟩
  obtain ⟨p, hp, e⟩ := List.mem_map.mp hm
  have := Heap.lt_size (R.news p hp).1
  rw [e] at this
  exact absurd this (Nat.lt_irrefl _)
theorem T.sum {l : Addr} {vs : List Value} {e : Nat} {ns : List Int} (hh : c.A.handled = none) (hl : (l, lst vs e) ∈ led) (hi : IntsAre vs ns) (h : ∀ t, Q (.int ns.sum t) m led) : T c m led (call (.builtin "sum") [.ref l]) Q X := .mk fun hp tk R => by
  obtain ⟨xs, hx⟩ := hi.allInts.items
  have hl' : hp.IsList l (intItems xs) := hx ▸ R.isList hl
  refine sum_intListG (s := c.s hp tk) hh hl' fun h' tk' t' hk => ?_
  have e1 : (numsOf vs).sum = ns.sum := by rw [hi.numsOf]
  have e2 := nums_intItems xs
  rw [← hx] at e2
  have := post_ok (Q := Q) (tk := tk') (R.all hk) (h t')
  rw [← e1, show numsOf vs = _ from e2] at this
  rw [preSum_eq, List.take_of_length_le (by simp)]
  exact this
theorem T.min2 {a b : Int} {t u : Tok} (hh : c.A.handled = none) (h : ∀ t, Q (.int (if b < a then b else a) t) m led) : T c m led (call (.builtin "min") [.int a t, .int b u]) Q X := .mk fun hp tk R =>
  min_two_ints (s := c.s hp tk) hh fun h' tk' hk => by
    have := h u
    have h2 := h t
    by_cases hb : b < a
    · rw [if_pos hb] at this ⊢; exact post_ok (R.all hk) this
    · rw [if_neg hb] at h2 ⊢; exact post_ok (R.all hk) h2
theorem T.pnone (h : Q .none m led) : T c m led (evalPart none env) Q X := .mk fun hp tk R => wpAny_pure (post_ok R h)
theorem T.psome {e : Expr} (h : T c m led (eval e env) Q X) : T c m led (evalPart (some e) env) Q X := h
theorem T.slice {lower upper step : Option Expr} {p : Pos} (h : T c m led (evalPart lower env) (fun l m₁ l₁ => T c m₁ l₁ (evalPart upper env) (fun u m₂ l₂ => T c m₂ l₂ (evalPart step env) (fun st m₃ l₃ => ∀ a, Q (.ref a) m₃ ((a, slcO l u st) :: l₃)) X) X) X) :
    T c m led (eval (.Slice lower upper step p) env) Q X := .mk fun hp tk R => wpAny_Slice (then_wp (h.run hp tk R) fun _ _ _ _ _ R₁ q₁ => then_wp (q₁.run _ _ R₁) fun _ _ _ _ _ R₂ q₂ => then_wp (q₂.run _ _ R₂) fun _ _ _ _ _ R₃ q₃ => post_ok (R₃.push _ rfl) (q₃ _))
theorem T.sub_slice {value slice : Expr} {l sl : Addr} {vs : List Value} {n : Nat} {vl vu vt : Value} {lo hi st : Option Int} (ops : List Value) (hl : (l, lst vs n) ∈ led) (hsl : (sl, slcO vl vu vt) ∈ led) (pl : IsPart vl lo) (pu : IsPart vu hi) (pt : IsPart vt st) (h0 : st ≠ some 0) (hsz : vs.length ≤ sizeLine)
    (hs : subscripted slice false (.ref l) (.ref sl) = operate ops (getItem (.ref l) (.ref sl))) (h : ∀ a, Q (.ref a) m ((a, lst (slicePick vs.toArray lo hi st).toList 0) :: led)) : T c m led (subscriptTail value slice (.ref l) (.ref sl)) Q X := .mk fun hp tk R =>
  tail_any (R.isList hl).typeIs slot_list_getitem.lookup (wpAny_getItem_list_slice (R.isList hl) ⟨_, R.get hsl, rfl, rfl⟩ pl pu pt h0 (post_ok (R.push _ rfl) (h _)) (by simpa using hsz)) hs
theorem T.addl {x y : Addr} {vs ws : List Value} {n k : Nat} (hx : (x, lst vs n) ∈ led) (hy : (y, lst ws k) ∈ led) (hsz : vs.length + ws.length ≤ sizeLine) (h : ∀ a, Q (.ref a) m ((a, lst (vs ++ ws) 0) :: led)) : T c m led (binaryOp .Add (.ref x) (.ref y)) Q X := .mk fun hp tk R =>
  add_lists (s := c.s hp tk) (full_fr R) (full_news R) (R.isList hx) (R.isList hy) (fun h' F' N' => post_ok (R.new F' N') (h _)) hsz
end
-- F6
local macro_rules | `(tactic| wtm_at "append") => `(tactic| (
  (try (with_reducible refine T.expr (by kernel_rfl) (by kernel_rfl) ?_));
  (with_reducible refine T.mcall (by kernel_rfl) (by kernel_rfl) ?_);
  wtm_at "t";
  (refine T.list_method (by wtm_at "mem") F.slot_list_append F.type_list_append ?_);
  (with_reducible refine T.cwb ?_);
  (with_reducible refine T.scons ?_)))
local macro_rules | `(tactic| wtm_at "sub") => `(tactic| first | exact Sub.refl _ | (refine' Sub.pick ?b ?_; (case b => wtm_at "bring"); wtm_at "sub") | (refine Sub.cons ?_; wtm_at "sub") | (refine Sub.app ?_; wtm_at "sub"))
theorem Sub.pick {x : Addr × Obj} {r l l' : Led} (b : Bring x l l') (h : Sub r l') : Sub (x :: r) l :=
  let ⟨k, p, q⟩ := h
  Sub.perm ⟨x :: k, p.cons x, q.cons_cons x⟩ b.perm
abbrev nat2 (ps : List Nat) : List Int := ps.map fun (p : Nat) => (p : Int)
theorem ints_at {us : List Value} {ps : List Nat} (h : IntsAre us (nat2 ps)) {i : Nat} (hi : i < ps.length) : ∃ t, us[i]? = some (.int (ps.getD i 0 : Nat) t) := by
  induction ps generalizing us i with
  | nil => simp at hi
  | cons p r ih =>
    cases h with
    | cons n t h' =>
      cases i with
      | zero => exact ⟨t, rfl⟩
      | succ i => exact ih h' (by simpa using hi)
theorem ints_len {us : List Value} {ps : List Nat} (h : IntsAre us (nat2 ps)) : us.length = ps.length := by
  have := h.length
  simpa using this
theorem ints_snoc {us : List Value} {ps : List Nat} {p : Nat} {t : Tok} (h : IntsAre us (nat2 ps)) : IntsAre (us ++ [.int (p : Nat) t]) (nat2 (ps ++ [p])) := by
  have := IntsAre.append h (.cons (p : Int) t .nil)
  simpa [nat2] using this
theorem Pairs.snoc {led : Led} {vs : List Value} {ms : List (Nat × Nat)} {x : Addr} {p : Nat × Nat} {t t' : Tok} (h : Pairs led vs ms) (hx : (x, tup [.int (p.1 : Nat) t, .int (p.2 : Nat) t']) ∈ led) : Pairs led (vs ++ [.ref x]) (ms ++ [p]) := by
  refine ⟨by simp [h.1], fun i q hq => ?_⟩
  rw [List.getElem?_append] at hq
  split at hq
  · rename_i hi
    obtain ⟨y, u, u', a, b⟩ := h.2 i q hq
    exact ⟨y, u, u', by rw [List.getElem?_append_left (by rw [h.1]; exact hi)]; exact a, b⟩
  · rename_i hi
    have hi' : i = ms.length := by
      have := (List.getElem?_eq_some_iff.mp hq).1
      simp at this
      omega
    subst hi'
    simp at hq
    subst hq
    exact ⟨x, t, t', by rw [← h.1]; simp, hx⟩
theorem Pairs.rot {led : Led} {vs : List Value} {ms : List (Nat × Nat)} (h : Pairs led vs ms) (k : Nat) : Pairs led (vs.drop k ++ vs.take k) (ms.drop k ++ ms.take k) := by
  refine ⟨by simp [h.1], fun i q hq => ?_⟩
  rw [List.getElem?_append] at hq ⊢
  simp only [List.length_drop] at hq ⊢
  rw [h.1]
  split at hq
  · rename_i hlt
    rw [if_pos hlt]
    rw [List.getElem?_drop] at hq ⊢
    exact h.2 _ q hq
  · rename_i hlt
    rw [if_neg hlt]
    rw [List.getElem?_take] at hq ⊢
    split at hq
    · rename_i hlt2
      rw [if_pos hlt2]
      exact h.2 _ q hq
    · cases hq
theorem tree_snoc {ps : List Nat} (H : Tree ps) {p : Nat} (hp : p < ps.length) : Tree (ps ++ [p]) := by
  have := H.pos
  refine ⟨by simp, ?_, fun k h0 hk => ?_⟩
  · rw [List.getD_eq_getElem?_getD, List.getElem?_append_left H.pos, ← List.getD_eq_getElem?_getD]; exact H.root
  · by_cases hlt : k < ps.length
    · rw [List.getD_eq_getElem?_getD, List.getElem?_append_left hlt, ← List.getD_eq_getElem?_getD]; exact H.lt k h0 hlt
    · have : k = ps.length := by simp at hk; omega
      subst this
      simpa using hp
structure TreeOk (ps : List Nat) (ms : List (Nat × Nat)) : Prop where
  tree : Tree ps
  lo : 4 ≤ ps.length
  hi : ps.length ≤ 10
  mlo : 4 ≤ ms.length
  mhi : ms.length ≤ 16
  nodes : ∀ q ∈ ms, q.1 < ps.length
  root : ∃ md, (0, md) ∈ ms
theorem Tree.base : Tree [0, 0, 1, 0] := ⟨by decide, rfl, fun k h0 hk => by
  match k, h0, hk with
  | 1, _, _ => decide
  | 2, _, _ => decide
  | 3, _, _ => decide
  | k + 4, _, hk => exact absurd hk (by show ¬ k + 4 < 4; omega)⟩
def treeM (rl pl ml : Addr) (o1 o2 o3 o4 o5 o6 : Option Value) : Loc := [(Str.ofString "row", some (.ref rl)), (Str.ofString "parents", some (.ref pl)), (Str.ofString "modes", some (.ref ml)), (Str.ofString "k", o1), (Str.ofString "x", o2), (Str.ofString "y", o3), (Str.ofString "j", o4), (Str.ofString "z", o5), (Str.ofString "turn", o6)]
inductive TreJ1 (rl pl ml : Addr) (led : Led) (i : Nat) (m₁ : Loc) (l₁ : Led) : Prop
  | mk (us ws : List Value) (e1 e2 : Nat) (ps : List Nat) (ms : List (Nat × Nat)) (g : Led) (o1 o2 o3 o4 o5 : Option Value) (hm : m₁ = treeM rl pl ml o1 o2 o3 o4 o5 none) (hpm : l₁.Perm ((pl, lst us e1) :: (ml, lst ws e2) :: (g ++ led))) (hus : IntsAre us (nat2 ps)) (hws : Pairs g ws ms) (htr : Tree ps) (hpl : ps.length = 4 + i) (hnod : ∀ q ∈ ms, q.1 < 4 + i) (hrt : ∃ md, (0, md) ∈ ms) (hml : 4 ≤ ms.length) (hmh : ms.length ≤ 4 + 2 * i)
inductive TreJ2 (rl pl ml I : Addr) (o : Obj) (uv : List Value) (ue : Nat) (led : Led) (kv yv : Value) (i j : Nat) (m₂ : Loc) (l₂ : Led) : Prop
  | mk (ws : List Value) (e2 : Nat) (ms : List (Nat × Nat)) (g : Led) (ox o4 o5 : Option Value) (hm : m₂ = treeM rl pl ml (some kv) ox (some yv) o4 o5 none) (hpm : l₂.Perm ((I, o) :: (pl, lst uv ue) :: (ml, lst ws e2) :: (g ++ led))) (hws : Pairs g ws ms) (hnod : ∀ q ∈ ms, q.1 < 4 + (i + 1)) (hrt : ∃ md, (0, md) ∈ ms) (hml : 4 ≤ ms.length) (hmh : ms.length ≤ 4 + 2 * i + j)
section
variable {c : Cx} {m : Loc} {led : Led} {X : Value → Loc → Led → Prop} {Q : Value → Loc → Led → Prop} {env : Env}
theorem T.itemE {value slice : Expr} {l : Addr} {vs : List Value} {n : Nat} {k : Nat} {u : Tok} (hm : (l, lst vs n) ∈ led) (hk : k < vs.length) (hf : vs.length < 2 ^ 60)
    (hs : subscripted slice false (.ref l) (.int (k : Nat) u) = operate [.ref l, .int (k : Nat) u] (getItem (.ref l) (.int (k : Nat) u))) (h : ∀ v, vs[k]? = some v → Q v m led) : T c m led (subscriptTail value slice (.ref l) (.int (k : Nat) u)) Q X :=
  T.itemN hm (by omega) (List.getElem?_eq_getElem hk) hs (h _ (List.getElem?_eq_getElem hk))
theorem tree_T {n : Nat} (G : Gd c (n + 1)) {rl : Addr} {vs : List Value} {e : Nat} {ns : List Int} (hl : (rl, lst vs e) ∈ led) (hi : IntsAre vs ns) (hn : ns.length ≤ 63)
    (h : ∀ tp pl ml us ws e1 e2 ps ms g, TreeOk ps ms → IntsAre us (nat2 ps) → Pairs g ws ms → Q (.ref tp) m ((tp, tup [.ref pl, .ref ml]) :: (pl, lst us e1) :: (ml, lst ws e2) :: (g ++ led))) : T c m led (call (.ref 258) [.ref rl]) Q X := by
  refine T.def [(Str.ofString "row", some (.ref rl)), (Str.ofString "parents", none), (Str.ofString "modes", none), (Str.ofString "k", none), (Str.ofString "x", none), (Str.ofString "y", none), (Str.ofString "j", none), (Str.ofString "z", none), (Str.ofString "turn", none)] G rfl (by kernel_rfl) (by kernel_rfl) (by kernel_rfl) rfl ?_
  intro c' hw G'
  have hvl : vs.length = ns.length := hi.length
  have hsl : sizeLine = 16777216 := rfl
  repeat' wtm_at "x"
  refine T.list (by kernel_rfl) ?_
  repeat' wtm_at "x"
  refine ⟨by show 4 ≤ sizeLine; decide, fun pl => ?_⟩
  repeat' wtm_at "x"
  refine T.list (by kernel_rfl) ?_
  refine T.scons (T.tuple (by kernel_rfl) ?_)
  repeat' wtm_at "x"
  refine ⟨by show 2 ≤ sizeLine; decide, fun a1 => ?_⟩
  refine T.scons (T.tuple (by kernel_rfl) ?_)
  repeat' wtm_at "x"
  refine ⟨by show 2 ≤ sizeLine; decide, fun a2 => ?_⟩
  refine T.scons (T.tuple (by kernel_rfl) ?_)
  repeat' wtm_at "x"
  refine ⟨by show 2 ≤ sizeLine; decide, fun a3 => ?_⟩
  refine T.scons (T.tuple (by kernel_rfl) ?_)
  repeat' wtm_at "x"
  refine ⟨by show 2 ≤ sizeLine; decide, fun a4 => ?_⟩
  repeat' wtm_at "x"
  refine ⟨by show 4 ≤ sizeLine; decide, fun ml => ?_⟩
  repeat' wtm_at "x"
  refine T.for (fun _ => rfl) ?_
  repeat' wtm_at "x"
  refine T.bltn G' (g_no_range _) b_range (by decide) rfl rfl rfl (by kernel_rfl) (by kernel_rfl) ?_
  refine T.cwt ?_
  repeat' wtm_at "x"
  refine T.bltn G' (g_no_min _) b_min (by decide) rfl rfl rfl (by kernel_rfl) (by kernel_rfl) ?_
  refine T.cwb ?_
  repeat' wtm_at "x"
  refine T.bltn G' (g_no_len _) b_len (by decide) rfl rfl rfl (by kernel_rfl) (by kernel_rfl) ?_
  refine T.cwb ?_
  repeat' wtm_at "x"
  refine T.len (l := rl) (by wtm_at "mem") (by omega) fun t1 => ?_
  repeat' wtm_at "x"
  refine T.min2 G'.hdl fun t2 => ?_
  repeat' wtm_at "x"
  refine T.range1 fun r t3 t4 => ?_
  refine T.iter_range G'.hdl (.head _) (by omega) (by omega) (by omega) (by omega) fun I oI S W hS => ?_
  have hcount : ((if (vs.length : Int) < 6 then (vs.length : Int) else 6) - 0).toNat ≤ 6 := by split <;> omega
  refine TC.for (J := TreJ1 rl pl ml led) W hS ?_ ?_ ?_ ?_
  · intro i m₁ l₁ _ p hp; cases hp
  · refine ⟨_, _, 0, 0, [0, 0, 1, 0], [(0, 16877), (1, 33188), (1, 17353), (3, 41471)], [(r, _), (a4, _), (a3, _), (a2, _), (a1, _)], none, none, none, none, none, rfl, by wtm_at "perm", ?_, ?_, Tree.base, rfl, by decide, ⟨16877, .head _⟩, by decide, by decide⟩
    · exact .cons _ _ (.cons _ _ (.cons _ _ (.cons _ _ .nil)))
    · refine ⟨rfl, fun i q hq => ?_⟩
      match i, hq with
      | 0, hq => cases hq; exact ⟨a1, _, _, rfl, by wtm_at "mem"⟩
      | 1, hq => cases hq; exact ⟨a2, _, _, rfl, by wtm_at "mem"⟩
      | 2, hq => cases hq; exact ⟨a3, _, _, rfl, by wtm_at "mem"⟩
      | 3, hq => cases hq; exact ⟨a4, _, _, rfl, by wtm_at "mem"⟩
      | i + 4, hq => simp at hq
  · rintro i v o m₁ l₁ hii ⟨tv, rfl⟩ ⟨us, ws, e1, e2, ps, ms, g, o1, o2, o3, o4, o5, rfl, hpm, hus, hws, htr, hpl, hnod, hrt, hml, hmh⟩
    have hi6 : i < 6 := by omega
    have hul := ints_len hus
    rw [show (0 + ((i : Nat) : Int)) = ((i : Nat) : Int) by simp]
    refine T.perm (hpm.symm.cons _) ?_
    refine T.asName ?_
    repeat' wtm_at "x"
    refine T.bltn G' (g_no_sum _) b_sum (by decide) rfl rfl rfl (by kernel_rfl) (by kernel_rfl) ?_
    refine T.cwb ?_
    repeat' wtm_at "x"
    refine T.slice (T.psome ?_)
    repeat' wtm_at "x"
    refine T.pnone (T.psome ?_)
    repeat' wtm_at "x"
    intro sl
    refine T.sub_slice (l := rl) [.ref rl, .ref sl] (by wtm_at "mem") (.head _) (.int _ _) .none (.int _ _) (by decide) (by omega) (by kernel_rfl) fun sa => ?_
    repeat' wtm_at "x"
    refine T.sum G'.hdl (.head _) (hi.pick _ _ _) fun t5 => ?_
    repeat' (first | wtm_at "append" | wtm_at "x")
    obtain ⟨x, hx⟩ : ∃ x : Nat, (pickNums ns (some ((i : Nat) : Int)) none (some 6)).sum.fmod 1000000 = (x : Int) := ⟨_, (Int.toNat_of_nonneg (Int.fmod_nonneg_of_pos _ (by decide))).symm⟩
    rw [hx]
    have e4 : (4 + ((i : Nat) : Int)) = ((4 + i : Nat) : Int) := by push_cast; rfl
    rw [e4]
    refine T.mod (by omega) fun t6 => ?_
    rw [fmodN]
    repeat' wtm_at "x"
    refine' T.append ?u ?z ?_
    (case u => wtm_at "up")
    (case z => omega)
    repeat' wtm_at "x"
    rw [e4]
    refine T.fdiv (by omega) (PyProof.noPylong_small (by omega)) fun t7 => ?_
    rw [fdivN]
    generalize hy : x / (4 + i) = y
    have hpi : x % (4 + i) < ps.length := by rw [hpl]; exact Nat.mod_lt _ (by omega)
    generalize x % (4 + i) = pi at *
    repeat' wtm_at "x"
    refine T.for (fun _ => rfl) ?_
    repeat' wtm_at "x"
    refine T.bltn G' (g_no_range _) b_range (by decide) rfl rfl rfl (by kernel_rfl) (by kernel_rfl) ?_
    refine T.cwt ?_
    repeat' wtm_at "x"
    rw [show Int.fmod (y : Int) 3 = ((y % 3 : Nat) : Int) from fmodN y 3]
    refine T.range1 fun r2 t8 t9 => ?_
    refine T.iter_range G'.hdl (.head _) (by omega) (by omega) (by omega) (by omega) fun I2 oI2 S2 W2 hS2 => ?_
    have hy3 : y % 3 < 3 := Nat.mod_lt _ (by decide)
    refine TC.for (J := TreJ2 rl pl ml I o (us ++ [.int (pi : Nat) t6]) (e1 + 1) led (.int (i : Nat) tv) (.int (y : Nat) t7) i) W2 hS2 ?_ ?_ ?_ ?_
    · intro j m₂ l₂ _ p hp; cases hp
    · refine ⟨ws, e2, ms, (r2, _) :: (sa, _) :: (sl, _) :: g, _, _, _, rfl, by wtm_at "perm", hws.mono fun p hp => by wtm_at "mem", fun q hq => by have := hnod q hq; omega, hrt, hml, by omega⟩
    · rintro j v2 o2 m₂ l₂ hjj ⟨tj, rfl⟩ ⟨ws, e2, ms, g, ox, o4, o5, rfl, hpm2, hws, hnod, hrt, hml, hmh⟩
      have hj3 : j < 3 := by omega
      rw [show (0 + ((j : Nat) : Int)) = ((j : Nat) : Int) by simp]
      refine T.perm (hpm2.symm.cons _) ?_
      refine T.asName ?_
      repeat' wtm_at "x"
      refine T.mul (.of_left (by decide)) fun t10 => ?_
      repeat' wtm_at "x"
      rw [show (Int.fdiv (y : Int) 3 + 4099 * ((j : Nat) : Int)) = ((y / 3 + 4099 * j : Nat) : Int) by rw [show Int.fdiv (y : Int) 3 = ((y / 3 : Nat) : Int) from fdivN y 3]; omega]
      generalize y / 3 + 4099 * j = z
      repeat' (first | wtm_at "append" | wtm_at "x")
      refine T.tuple (by kernel_rfl) ?_
      repeat' wtm_at "x"
      rw [e4]
      refine T.list (by kernel_rfl) ?_
      repeat' wtm_at "x"
      refine ⟨by show 4 ≤ sizeLine; decide, fun lq => ?_⟩
      repeat' wtm_at "x"
      rw [show Int.fmod (z : Int) 4 = ((z % 4 : Nat) : Int) from fmodN z 4]
      have hz4 : z % 4 < 4 := Nat.mod_lt _ (by decide)
      refine' T.itemE (l := lq) (.head _) hz4 (by show 4 < 2 ^ 60; decide) (by kernel_rfl) fun v hv => ?_
      obtain ⟨bq, tq, rfl⟩ : ∃ (bq : Nat) (tq : Tok), v = .int (bq : Nat) tq := by
        match hz : z % 4, hz4 with
        | 0, _ => rw [hz] at hv; cases hv; exact ⟨16384, _, rfl⟩
        | 1, _ => rw [hz] at hv; cases hv; exact ⟨32768, _, rfl⟩
        | 2, _ => rw [hz] at hv; cases hv; exact ⟨16384, _, rfl⟩
        | 3, _ => rw [hz] at hv; cases hv; exact ⟨40960, _, rfl⟩
      clear hv
      repeat' wtm_at "x"
      refine T.mul (.of_right (by decide)) fun t11 => ?_
      repeat' wtm_at "x"
      refine ⟨by show 2 ≤ sizeLine; decide, fun tp => ?_⟩
      have emd : ((bq : Int) + Int.fmod (Int.fdiv (z : Int) 4) 4096 + Int.fdiv (z : Int) 16384 * 65536) = ((bq + z / 4 % 4096 + z / 16384 * 65536 : Nat) : Int) := by
        rw [fdm z 4 4096, show Int.fdiv (z : Int) 16384 = ((z / 16384 : Nat) : Int) from fdivN z 16384]; omega
      rw [emd]
      generalize bq + z / 4 % 4096 + z / 16384 * 65536 = md
      repeat' wtm_at "x"
      refine' T.append ?u ?z ?_
      (case u => wtm_at "up")
      (case z => have := hws.1; omega)
      repeat' wtm_at "x"
      refine ⟨(I, o) :: (pl, lst (us ++ [.int (pi : Nat) t6]) (e1 + 1)) :: (ml, lst (ws ++ [.ref tp]) (e2 + 1)) :: (((tp, _) :: (lq, _) :: g) ++ led), by wtm_at "perm", _, _, ms ++ [(4 + i, md)], (tp, _) :: (lq, _) :: g, _, _, _, rfl, .refl _, ?_, ?_, ?_, ?_, ?_⟩
      · exact (hws.mono fun p hp => by wtm_at "mem").snoc (p := (4 + i, md)) (.head _)
      · intro q hq
        rcases List.mem_append.mp hq with hq | hq
        · exact hnod q hq
        · rw [List.mem_singleton.mp hq]; show 4 + i < _; omega
      · obtain ⟨md0, h0⟩ := hrt; exact ⟨md0, List.mem_append_left _ h0⟩
      · rw [List.length_append]; omega
      · rw [List.length_append, List.length_singleton]; omega
    · rintro m₂ l₂ ⟨ws, e2, ms, g, ox, o4, o5, rfl, hpm2, hws, hnod, hrt, hml, hmh⟩
      repeat' wtm_at "x"
      refine ⟨(pl, lst (us ++ [.int (pi : Nat) t6]) (e1 + 1)) :: (ml, lst ws e2) :: (g ++ led), hpm2.symm, _, _, _, _, ps ++ [pi], ms, g, _, _, _, _, _, rfl, .refl _, ints_snoc hus, hws, tree_snoc htr hpi, ?_, ?_, hrt, hml, ?_⟩
      · rw [List.length_append, List.length_singleton]; omega
      · intro q hq; have := hnod q hq; omega
      · omega
  · rintro m₁ l₁ ⟨us, ws, e1, e2, ps, ms, g, o1, o2, o3, o4, o5, rfl, hpm, hus, hws, htr, hpl, hnod, hrt, hml, hmh⟩
    have hul := ints_len hus
    have hwl := hws.1
    refine T.perm hpm.symm ?_
    repeat' wtm_at "x"
    refine T.bltn G' (g_no_sum _) b_sum (by decide) rfl rfl rfl (by kernel_rfl) (by kernel_rfl) ?_
    refine T.cwb ?_
    repeat' wtm_at "x"
    refine T.sum (l := rl) G'.hdl (by wtm_at "mem") hi fun t5 => ?_
    repeat' wtm_at "x"
    refine T.bltn G' (g_no_len _) b_len (by decide) rfl rfl rfl (by kernel_rfl) (by kernel_rfl) ?_
    refine T.cwb ?_
    repeat' wtm_at "x"
    refine T.len (l := ml) (by wtm_at "mem") (by omega) fun t6 => ?_
    refine T.mod (by omega) fun t7 => ?_
    obtain ⟨tn, htn⟩ : ∃ tn : Nat, ns.sum.fmod ((ws.length : Nat) : Int) = (tn : Int) := ⟨_, (Int.toNat_of_nonneg (Int.fmod_nonneg_of_pos _ (by omega))).symm⟩
    rw [htn]
    repeat' wtm_at "x"
    refine T.tuple (by kernel_rfl) ?_
    repeat' wtm_at "x"
    refine T.slice (T.psome ?_)
    repeat' wtm_at "x"
    refine T.pnone (T.pnone ?_)
    intro s1
    refine T.sub_slice (l := ml) [.ref s1, .ref ml] (by wtm_at "mem") (.head _) (.int _ _) .none .none (by decide) (by omega) (by kernel_rfl) fun b1 => ?_
    repeat' wtm_at "x"
    refine T.slice (T.pnone (T.psome ?_))
    repeat' wtm_at "x"
    refine T.pnone ?_
    intro s2
    refine T.sub_slice (l := ml) [.ref s2, .ref ml] (by wtm_at "mem") (.head _) .none (.int _ _) .none (by decide) (by omega) (by kernel_rfl) fun b2 => ?_
    rw [slicePick_from', slicePick_upto']
    refine T.addl (x := b1) (y := b2) (by wtm_at "mem") (by wtm_at "mem") (by simp; omega) fun b3 => ?_
    repeat' wtm_at "x"
    refine ⟨by show 2 ≤ sizeLine; decide, fun tp => ?_⟩
    repeat wtm_at "un"
    refine ⟨(tp, _) :: (pl, lst us e1) :: (b3, _) :: (g ++ led), ?_, h tp pl b3 us _ e1 0 ps (ms.drop tn ++ ms.take tn) g ⟨htr, by omega, by omega, ?_, ?_, ?_, ?_⟩ hus (Pairs.rot hws tn)⟩
    · refine' Sub.pick ?bx0 ?_
      (case bx0 => wtm_at "bring")
      refine' Sub.pick ?bx1 ?_
      (case bx1 => wtm_at "bring")
      refine' Sub.pick ?bx2 ?_
      (case bx2 => wtm_at "bring")
      wtm_at "sub"
    · rw [List.length_append, List.length_drop, List.length_take]; omega
    · rw [List.length_append, List.length_drop, List.length_take]; omega
    · intro q hq
      have : q ∈ ms := by rcases List.mem_append.mp hq with h1 | h1; exact List.mem_of_mem_drop h1; exact List.mem_of_mem_take h1
      have := hnod q this
      omega
    · obtain ⟨md, hmd⟩ := hrt
      refine ⟨md, ?_⟩
      rw [← List.take_append_drop tn ms] at hmd
      rcases List.mem_append.mp hmd with h1 | h1
      · exact List.mem_append_right _ h1
      · exact List.mem_append_left _ h1
end
-- TM
/-- an iterator in whatever frame -/
def IterA (w : World) (A : Around) (I : Addr) (n : Nat) (P : Nat → Value → Prop) (ro : Led) (S : Nat → Obj → Prop) : Prop := ∀ c' : Cx, c'.w = w → c'.A = A → Iter c' I n P ro S
section
variable {c : Cx} {m : Loc} {led : Led} {X : Value → Loc → Led → Prop} {Q : Value → Loc → Led → Prop} {env : Env}
theorem T.itA_list {x : Addr} {vs : List Value} {n : Nat} (hh : c.A.handled = none) (hx : roOk c led [(x, lst vs n)])
    (h : ∀ I o S, IterA c.w c.A I vs.length (fun i v => vs[i]? = some v) [(x, lst vs n)] S → S 0 o → Q (.ref I) m ((I, o) :: led)) : T c m led (pyIter (.ref x)) Q X := .mk fun hp tk R => by
  have ho : hp.get? x = some (lst vs n) := R.ro hx _ (.head _)
  have hne : x ≠ hp.objs.size := Nat.ne_of_lt (Heap.lt_size ho)
  refine wpAny_pyIter_list ⟨_, ho, rfl, n, rfl⟩ ?_
  have W := Walks.list (prog := pw) (w := c.w) (A := c.A) hh hp.objs.size x hne vs.toArray
  simp only [List.size_toArray, List.getElem?_toArray] at W
  have It : IterA c.w c.A hp.objs.size vs.length (fun i v => vs[i]? = some v) [(x, lst vs n)] _ := fun c' hw hA => Iter.of_walks (c := c') (ro := [(x, lst vs n)]) (by rw [hw, hA]; exact W) (by intro b hb; simp at hb; rcases hb with h | h; exact .inl h; exact .inr ⟨_, by rw [h]; exact .head _⟩) (by intro p hp; simp at hp; subst hp; exact hne)
    (fun i h st => by obtain ⟨⟨o, h1, h2, _⟩, _⟩ := st; exact ⟨o, _, h1, h2, by decide⟩)
  exact post_ok (R.push _ rfl) (h _ _ _ It ⟨⟨_, rfl, by decide⟩, fun h' e1 e2 => ⟨⟨_, e1, rfl, rfl⟩, ⟨_, e2 _ (.head _), rfl, n, rfl⟩⟩⟩)
theorem T.itA_range {r : Addr} {a b : Int} {t u v : Tok} (hh : c.A.handled = none) (hm : (r, rngO a b t u v) ∈ led) (ha : -(2 ^ 60) ≤ a) (ha' : a < 2 ^ 60) (hb : -(2 ^ 60) ≤ b) (hb' : b < 2 ^ 60)
    (h : ∀ I o S, IterA c.w c.A I (b - a).toNat (fun i v => ∃ t, v = .int (a + (i : Nat)) t) [] S → S 0 o → Q (.ref I) m ((I, o) :: led)) : T c m led (pyIter (.ref r)) Q X := .mk fun hp tk R => by
  refine wpAny_pyIter_range (R.get hm) (small_one (by omega) (by omega) (by omega) (by omega)) ?_
  have W := Walks.range (prog := pw) (w := c.w) (A := c.A) hh hp.objs.size a 1 (b - a).toNat
  simp only [Int.mul_one] at W
  have It : IterA c.w c.A hp.objs.size (b - a).toNat (fun i v => ∃ t, v = .int (a + (i : Nat)) t) [] _ := fun c' hw hA => Iter.of_walks (c := c') (ro := []) (by rw [hw, hA]; exact W) (by intro b hb; simp at hb; exact .inl hb) (by intro p hp; cases hp)
    (fun i h st => ⟨_, _, st, rfl, by decide⟩)
  refine post_ok (R.push _ rfl) (h _ _ _ It ⟨⟨_, rfl, by decide⟩, fun h' e1 _ => ?_⟩)
  rw [rangeSize_nat] at e1
  have : (a + ((0 : Nat) : Int)) = a := by simp
  rw [this]
  have e2 : (((b - a).toNat : Int) - ((0 : Nat) : Int)) = ((b - a).toNat : Int) := by simp
  rw [e2]
  exact e1
end
abbrev cellO (v : Option Value) : Obj := { cls := .type "cell", data := .cell v }
def cellLed : Nat → Nat → Led → Led
  | 0, _, l => l
  | k + 1, a, l => cellLed k (a + 1) ((a, cellO none) :: l)
def pushN : Nat → Heap → Heap
  | 0, h => h
  | k + 1, h => pushN k (h.push (cellO none))
section
variable {c : Cx} {m : Loc} {led : Led} {X : Value → Loc → Led → Prop} {Q : Value → Loc → Led → Prop} {env : Env}
theorem nfe_around {M : Model} {A : Around} {E : Value → Shared → Prop} {s : Shared} {scope : Scope} {globals : Addr} {cl : List (Str × Addr)} {qual : Str} {Q : Env → Shared → Prop}
    (hQ : Q (newEnv scope s.heap.objs.size globals (cellsFrom (s.heap.objs.size + 1) scope.names cl) qual none .none (some env) builtinsNs) { s with heap := pushCells (s.heap.push { cls := .type "dict", data := .dict #[] }) scope.names }) :
    wpAny M A (newFunctionEnv scope globals cl [] qual none .none (some env)) Q E s := by
  simp only [newFunctionEnv, Option.isSome_some, if_true]
  refine wpAny_bind (wpAny_alloc ?_)
  refine wpAny_bind (wpAny_layCells _ (fun name kind cells => by cases hkc : kind == NameKind.cell <;> simp [hkc]) _ _ _ _ ?_)
  rw [show ({ s with heap := s.heap.push { cls := .type "dict", data := .dict #[] } } : Shared).heap.objs.size = s.heap.objs.size + 1 from Heap.size_push ..]
  exact wpAny_bind (wpAny_pure (wpAny_pure hQ))
theorem Rep.pushN {hp : Heap} : ∀ (k : Nat) {hp : Heap} {led : Led}, Rep c m led hp → Rep c m (cellLed k hp.objs.size led) (Mine.pushN k hp)
  | 0, _, _, R => R
  | k + 1, hp, led, R => by
    have := Rep.pushN (hp := hp) k (R.push (cellO none) rfl)
    rw [Heap.size_push] at this
    exact this
theorem Rep.sameBut {hp h' : Heap} {C : Addr} (R : Rep c m led hp) (hs : Heap.SameBut C hp h') (h1 : C ≠ c.L) (h2 : C ∉ led.map (·.1)) (h3 : c.h0.get? C = none) (h4 : C ∉ c.outs.map (·.1)) : Rep c m led h' := by
  refine ⟨⟨R.fr.ns.sameBut hs (Ne.symm h1), fun b o e => hs.extBut b o (fun q => ?_) (R.fr.keep b o e), R.fr.above⟩, fun p hp => ⟨hs.extBut _ _ (fun q => h2 (q ▸ List.mem_map_of_mem hp)) (R.news p hp).1, (R.news p hp).2⟩, R.nd, fun p hp => ?_⟩
  rotate_left
  · obtain ⟨⟨sl, e⟩, r⟩ := R.outs p hp
    exact ⟨⟨sl, hs.extBut _ _ (fun q => h4 (q ▸ List.mem_map_of_mem hp)) e⟩, r⟩
  rw [q, h3] at e; cases e
/-- the rest of a comprehension, from its iterator on -/
structure TK (c : Cx) (m : Loc) (led : Led) (it : Value) (e : Expr) (scope : Scope) (cl : List (Str × Addr)) (env : Env) (K : Value → Loc → Led → Prop) : Prop where
  run : ∀ hp tk (RR : Value → Addr → Result → Shared → Prop) E, Rep c m led hp →
    (∀ acc C h' tk' mC l', Rep c m l' h' → h'.Ns C mC → C ≠ c.L → C ∉ l'.map (·.1) → c.h0.get? C = none → C ∉ c.outs.map (·.1) → K (.ref acc) m l' → RR (.ref acc) C (.ok .next) (c.s h' tk')) →
    wpAny c.M c.A (newList []) (fun acc s₃ => wpAny c.M c.A (newFunctionEnv scope env.globals cl [] env.qual none .none (some env)) (fun cenv s₄ =>
      codeAny c.M c.A (.compStart e 0 it acc { cenv with scope := relabel scope env }) (RR acc cenv.locals) s₄) E s₃) E (c.s hp tk)
theorem T.comp {elt target iter : Expr} {ifs : List Expr} {scope : Scope} {cl : List (Str × Addr)} {pos : Pos} (hclos : closureFor scope env = Pure.pure cl)
    (hkind : scope.kind = .function) (hnames : (scope.names.all fun x => x.2 != .local || scope.names.lookup x.1 == some .local) = true)
    (h : T c m led (eval iter env) (fun v m₁ l₁ => T c m₁ l₁ (pyIter v) (fun it m₂ l₂ => TK c m₂ l₂ it (.ListComp elt [⟨target, iter, ifs, 0⟩] scope pos) scope cl env Q) X) X)
    (hs : ∀ x, foldedSetIterable iter env x = Pure.pure x := by intro _; rfl) :
    T c m led (eval (.ListComp elt [⟨target, iter, ifs, 0⟩] scope pos) env) Q X := .mk fun hp tk R => by
  rw [eval_ListComp]
  refine wpAny_comprehension_free (use := none) rfl hs hclos hkind (fun x hx hl => by have := List.all_eq_true.mp hnames x hx; rw [hl] at this; simpa using this)
    (then_wp (h.run hp tk R) fun _ _ _ _ _ R₁ q₁ => then_wp (q₁.run _ _ R₁) fun _ _ _ _ _ R₂ q₂ => q₂.run _ _ (fun acc C => compPost _ _ _ none (Post c Q) acc C) _ R₂ ?_)
  intro acc C h' tk' mC l' R' hn h1 h2 h3 h4 k
  exact ⟨mC, hn, fun h'' hs'' => post_ok (R'.sameBut hs'' h1 h2 h3 h4) k⟩
theorem T.assign_comp {elt target iter : Expr} {ifs : List Expr} {scope : Scope} {cl : List (Str × Addr)} {pos spos py : Pos} {y : Str} {Q : Flow → Loc → Led → Prop}
    (hsw : swapsWith (.ListComp elt [⟨target, iter, ifs, 0⟩] scope pos) (some (.Name y py)) spos.line env = Pure.pure true) (hclos : closureFor scope env = Pure.pure cl)
    (hkind : scope.kind = .function) (hnames : (scope.names.all fun x => x.2 != .local || scope.names.lookup x.1 == some .local) = true)
    (hk : env.scope.kind = .function) (hL : env.locals = c.L) (hy : env.kindOf y = some .local)
    (h : T c m led (eval iter env) (fun v m₁ l₁ => T c m₁ l₁ (pyIter v) (fun it m₂ l₂ => TK c m₂ l₂ it (.ListComp elt [⟨target, iter, ifs, 0⟩] scope pos) scope cl env (fun v m l => Q .next (setL y v m) l)) X) X)
    (hs : ∀ x, foldedSetIterable iter env x = Pure.pure x := by intro _; rfl) :
    T c m led (exec (.Assign [.Name y py] (.ListComp elt [⟨target, iter, ifs, 0⟩] scope pos) spos) env) Q X := .mk fun hp tk R => by
  rw [exec_Assign_Name_used _ _ _ _ hsw]
  refine wpAny_bind (wpAny_standAt (wpAny_bind ?_))
  show wpAny _ c.A (do let _ ← comprehension (.ListComp elt [⟨target, iter, ifs, 0⟩] scope pos) scope env _ (newList []) false (eval iter env) (some (PySem.assign (.Name y py) env))) _ _ _
  refine wpAny_bind (wpAny_mono (wpAny_comprehension_free (use := some (PySem.assign (.Name y py) env)) (Q := fun _ s' => Post c Q .next s') rfl hs hclos hkind (fun x hx hl => by have := List.all_eq_true.mp hnames x hx; rw [hl] at this; simpa using this)
    (then_wp (h.run hp tk R) fun _ _ _ _ _ R₁ q₁ => then_wp (q₁.run _ _ R₁) fun _ _ _ _ _ R₂ q₂ => q₂.run _ _ (fun acc C => compPost _ _ _ (some (PySem.assign (.Name y py) env)) (fun _ s' => Post c Q .next s') acc C) _ R₂ ?_)) (fun _ s' hq => wpAny_pure (wpAny_pure hq)) fun _ _ e => e)
  intro acc C h' tk' mC l' R' hn h1 h2 h3 h4 k
  show wpAny _ c.A (PySem.assign (.Name y py) env (.ref acc)) _ _ _
  refine wpAny_assign_Name (wpAny_storeName_local hy (by rw [hL]; exact R'.fr.ns) (fun h₂ hn₂ hs₂ => ?_) (by rw [hk]; rfl))
  rw [hL] at hn₂ hs₂
  exact ⟨mC, hn.sameBut hs₂ h1, fun h'' hs'' => post_ok ((R'.setm hn₂ hs₂).sameBut hs'' h1 h2 h3 h4) k⟩
abbrev compTs (ifs : List Expr) (env : Env) : Sem Bool := forIn ifs true fun c r => if r = true then do let ok ← isTrue c env (eval c env); pure (ForInStep.yield ok) else pure (ForInStep.yield r)
theorem T.tests_nil {Q : Bool → Loc → Led → Prop} (h : Q true m led) : T c m led (compTs [] env) Q X := .mk fun hp tk R => wpAny_tests_nil (post_ok R h)
theorem T.tests_one {e : Expr} {Q : Bool → Loc → Led → Prop} (h : T c m led (isTrue e env (eval e env)) Q X) : T c m led (compTs [e] env) Q X := .mk fun hp tk R => wpAny_tests_one (h.run hp tk R)
theorem Gd.same {n : Nat} {hp : Heap} (G : Gd c n) (R : Rep c m led hp) : Gd (c.in hp led c.A) n := by
  have k := stays R
  obtain ⟨mg, g⟩ := G.g
  obtain ⟨mb, b, bb⟩ := G.b
  exact ⟨Frag.In.keeps G.K k, G.lim.keeps k, ⟨mg, g.keeps k⟩, ⟨mb, b.keeps k, bb⟩, G.depth, G.units, G.hdl, G.bm.keeps k, G.frs.in (.inl rfl)⟩
abbrev cenvOf (scope : Scope) (cl : List (Str × Addr)) (C : Addr) (env : Env) : Env :=
  { scope := relabel scope env, locals := C, globals := env.globals, cells := cellsFrom (C + 1) scope.names cl, qual := env.qual, func := none, code := env.code, frame := env.frame, builtins := env.builtins }
theorem cellLed_congr : ∀ (k a : Nat) {l l' : Led}, l.Perm l' → (cellLed k a l).Perm (cellLed k a l')
  | 0, _, _, _, h => h
  | k + 1, a, _, _, h => cellLed_congr k (a + 1) (h.cons _)
theorem cellLed_out : ∀ (k a : Nat) (x : Addr × Obj) (l : Led), (x :: cellLed k a l).Perm (cellLed k a (x :: l))
  | 0, _, _, _ => .refl _
  | k + 1, a, x, l => (cellLed_out k (a + 1) x ((a, cellO none) :: l)).trans (cellLed_congr k (a + 1) (.swap ..))
theorem roOk.cons {ro : Led} {p : Addr × Obj} (h : roOk c led ro) : roOk c (p :: led) ro := fun q hq => (h q hq).imp (.tail _) id
theorem TK.loop {n : Nat} {I : Addr} {o₀ : Obj} {l₀ : Led} {N : Nat} {P : Nat → Value → Prop} {ro : Led} {S : Nat → Obj → Prop} {elt target iter : Expr} {ifs : List Expr} {scope : Scope} {cl : List (Str × Addr)} {pos : Pos} {K : Value → Loc → Led → Prop}
    (It : IterA c.w c.A I N P ro S) (h0 : S 0 o₀) (G : Gd c n) (k : Nat) (hpc : ∀ h, pushCells h scope.names = Mine.pushN k h) (J : Cx → Nat → Loc → List Value → Led → Prop) (mC : Loc) (hmC : ∀ y, lookL y mC = none)
    (hro : ∀ c' i m₁ us l₁, J c' i m₁ us l₁ → roOk c l₁ ro)
    (hJ : ∀ c' : Cx, c'.w = c.w → c'.A = c.A → (∀ b o, c.h0.get? b = some o → c'.h0.get? b = some o) → J c' 0 mC [] (cellLed k (c'.L + 1) l₀))
    (turn : ∀ (c' : Cx) i v o acc us m₁ l₁, c'.w = c.w → c'.A = c.A → Gd c' n → (∀ b o, c.h0.get? b = some o → c'.h0.get? b = some o) → i < N → P i v → J c' i m₁ us l₁ →
      T c' m₁ ((I, o) :: (acc, lst us us.length) :: l₁) (assign target (cenvOf scope cl c'.L env) v) (fun _ m₂ l₂ => T c' m₂ l₂ (compTs ifs (cenvOf scope cl c'.L env)) (fun b m₃ l₃ =>
        if b = true then T c' m₃ l₃ (eval elt (cenvOf scope cl c'.L env)) (fun x m₄ l₄ => us.length ≤ sizeLine ∧ ∃ l', ((I, o) :: (acc, lst us us.length) :: l').Perm l₄ ∧ J c' (i + 1) m₄ (us ++ [x]) l') NoX
        else ∃ l', ((I, o) :: (acc, lst us us.length) :: l').Perm l₃ ∧ J c' (i + 1) m₃ us l') NoX) NoX)
    (done : ∀ c' acc m₁ us l₁, J c' N m₁ us l₁ → K (.ref acc) m ((acc, lst us us.length) :: l₁)) :
    TK c m ((I, o₀) :: l₀) (.ref I) (.ListComp elt [⟨target, iter, ifs, 0⟩] scope pos) scope cl env K := .mk fun hp tk RR E R fin => by
  refine wpAny_newObj_type (nfe_around ?_)
  have R₁ : Rep c m ((hp.objs.size, lst [] 0) :: (I, o₀) :: l₀) (hp.push (lst [] 0)) := R.push _ rfl
  rw [hpc]
  generalize hA : hp.objs.size = acc at R₁ ⊢
  generalize hH : hp.push (lst [] 0) = H at R₁ ⊢
  show codeAny c.M c.A (.compStart (.ListComp elt [⟨target, iter, ifs, 0⟩] scope pos) 0 (.ref I) (.ref acc) (cenvOf scope cl H.objs.size env)) (RR (.ref acc) H.objs.size)
    { c.sg with heap := Mine.pushN k (H.push { cls := .type "dict", data := .dict #[] }), toks := tk }
  have G₂ := G.same R₁
  have st := stays R₁
  have R₂ : Rep (c.in H ((acc, lst [] 0) :: (I, o₀) :: l₀) c.A) mC ((acc, lst [] 0) :: (I, o₀) :: l₀) (H.push { cls := .type "dict", data := .dict #[] }) := by
    refine R₁.enter ?_ fun b o e => Heap.get?_push_of_some _ e
    have : (fun y => lookL y mC) = fun _ => none := funext hmC
    rw [this]; exact Heap.Ns.new H (.type "dict")
  have R₃ := R₂.pushN (hp := H) k
  rw [Heap.size_push] at R₃
  generalize hc2 : c.in H ((acc, lst [] 0) :: (I, o₀) :: l₀) c.A = c₂ at R₂ R₃ G₂
  have hw : c₂.w = c.w := by rw [← hc2]; rfl
  have hAA : c₂.A = c.A := by rw [← hc2]; rfl
  have hL : c₂.L = H.objs.size := by rw [← hc2]; rfl
  have hsg : ∀ h tk, c₂.s h tk = c.s h tk := fun h tk => by rw [← hc2]; rfl
  have hM : c₂.M = c.M := by rw [← hc2]; rfl
  have hst : ∀ b o, c.h0.get? b = some o → c₂.h0.get? b = some o := by rw [← hc2]; exact st
  have hbk : ∀ {m' l' h'}, Rep c₂ m' l' h' → Rep c m l' h' := fun R' => by rw [← hc2] at R'; exact R₁.back R'
  have W := It c₂ hw hAA
  have R₄ := R₃.perm (l' := (I, o₀) :: (acc, lst [] 0) :: cellLed k (H.objs.size + 1) l₀) (((cellLed_out k _ _ l₀).cons _).trans ((cellLed_out k _ _ _).trans (cellLed_congr k _ (.swap ..))))
  have noX : ∀ {v : Value} {s' : Shared} {P : Prop}, Post c₂ NoX v s' → P := fun ⟨_, _, _, _, _, _, x⟩ => x.elim
  have ro2 : ∀ {i m₁ us l₁}, J c₂ i m₁ us l₁ → roOk c₂ ((acc, lst us us.length) :: l₁) ro := fun j p hp => (hro _ _ _ _ _ j p hp).imp (.tail _) (hst _ _)
  have J0 := hJ c₂ hw hAA hst
  rw [hL] at J0
  have loop : ∀ h₁ tk₁, Rep c₂ mC ((I, o₀) :: (acc, lst [] 0) :: cellLed k (H.objs.size + 1) l₀) h₁ → codeAny c.M c.A (.compLoop (.ListComp elt [⟨target, iter, ifs, 0⟩] scope pos) 0 (.ref I) (.ref acc) (cenvOf scope cl H.objs.size env)) (RR (.ref acc) H.objs.size) (c₂.s h₁ tk₁) := by
    intro h₁ tk₁ Rs
    refine codeAny_loop rfl (fun q s' => ∃ i m₁ us l₁ o₁ h₁ tk₁, s' = c₂.s h₁ tk₁ ∧ Rep c₂ m₁ ((I, o₁) :: (acc, lst us us.length) :: l₁) h₁ ∧ S i o₁ ∧ J c₂ i m₁ us l₁ ∧ i ≤ N ∧ q = N + 1 - i) ?_ (N + 1) ⟨0, mC, [], _, o₀, h₁, tk₁, rfl, Rs, h0, J0, Nat.zero_le _, rfl⟩
    rintro q s' ⟨i, m₁, us, l₁, o₁, h₂, tk₂, rfl, Ri, Si, Ji, hi, rfl⟩
    show wpAny _ c.A ((compTurn (.ListComp elt [⟨target, iter, ifs, 0⟩] scope pos) 0 (.ref I) (.ref acc) (cenvOf scope cl H.objs.size env)).onRaise (fun x => do noteFrame x (cenvOf scope cl H.objs.size env); theTreesLotGoes x)) _ _ _
    refine wpAny_noted ?_
    rw [compTurn_list, ← hM, ← hAA]
    refine wpAny_bind (wpAny_standAt (wpAny_bind ?_))
    by_cases hlt : i < N
    · have q1 := W.item i o₁ m₁ _ (fun r m₂ l₂ => ∃ v o', r = some v ∧ P i v ∧ S (i + 1) o' ∧ m₂ = m₁ ∧ l₂ = (I, o') :: (acc, lst us us.length) :: l₁) NoX hlt Si (ro2 Ji) (fun v o' hP hS => ⟨v, o', rfl, hP, hS, rfl, rfl⟩) |>.run h₂ tk₂ Ri
      refine wpAny_mono q1 (fun r s₂ ⟨m₂, l₂, h₃, tk₃, e, Rn, v, o', hr, hP, hS, hm, hl⟩ => ?_) fun _ _ x => noX x
      subst e hr hm hl
      have q2 := lotg_plain (c := c₂) (m := m₂) (l := (acc, lst us us.length) :: l₁) (I := I) (target := target) (v := v) (X := NoX) (Q := fun _ m₃ l₃ => m₃ = m₂ ∧ l₃ = (I, o') :: (acc, lst us us.length) :: l₁) (W.plain _ _ hS) ⟨rfl, rfl⟩ |>.run h₃ tk₃ Rn
      refine wpAny_bind (wpAny_mono q2 (fun _ s₃ ⟨m₃, l₃, h₄, tk₄, e, Rm, hm, hl⟩ => ?_) fun _ _ x => noX x)
      subst e hm hl
      have tn := turn c₂ i v o' acc us m₃ l₁ hw hAA G₂ hst hlt hP Ji
      rw [hL] at tn
      refine wpAny_bind (wpAny_mono (tn.run h₄ tk₄ Rm) (fun _ s₄ ⟨m₄, l₄, h₅, tk₅, e, Ra, qa⟩ => ?_) fun _ _ x => noX x)
      subst e
      refine wpAny_bind (wpAny_mono (qa.run h₅ tk₅ Ra) (fun b s₅ ⟨m₅, l₅, h₆, tk₆, e, Rb, qb⟩ => ?_) fun _ _ x => noX x)
      subst e
      have nx : ∀ {m₆ l' us' h₇ tk₇}, Rep c₂ m₆ ((I, o') :: (acc, lst us' us'.length) :: l') h₇ → J c₂ (i + 1) m₆ us' l' → ∃ m, m < N + 1 - i ∧ ∃ i m₁ us l₁ o₁ h₁ tk₁, c₂.s h₇ tk₇ = c₂.s h₁ tk₁ ∧ Rep c₂ m₁ ((I, o₁) :: (acc, lst us us.length) :: l₁) h₁ ∧ S i o₁ ∧ J c₂ i m₁ us l₁ ∧ i ≤ N ∧ m = N + 1 - i := fun {m₆ l' us' h₇ tk₇} Rr j =>
        ⟨N + 1 - (i + 1), by omega, i + 1, m₆, us', l', o', h₇, tk₇, rfl, Rr, hS, j, hlt, rfl⟩
      cases b with
      | false =>
        simp only [Bool.false_eq_true, if_false] at qb ⊢
        obtain ⟨l', hpm, j⟩ := qb
        exact wpAny_pure ⟨rfl, nx (Rb.perm hpm) j⟩
      | true =>
        simp only [if_true] at qb ⊢
        refine wpAny_bind (wpAny_bind (wpAny_mono (qb.run h₆ tk₆ Rb) (fun x s₆ ⟨m₆, l₆, h₇, tk₇, e, Rx, hsz, l', hpm, j⟩ => ?_) fun _ _ x => noX x))
        subst e
        have ap := T.append (c := c₂) (m := m₆) (X := NoX) (Q := fun _ m₇ l₇ => m₇ = m₆ ∧ l₇ = (I, o') :: (acc, lst (us ++ [x]) (us.length + 1)) :: l') (v := x) (Up.tail Up.head) hsz ⟨rfl, rfl⟩ |>.run h₇ tk₇ (Rx.perm hpm)
        refine wpAny_bind (wpAny_mono ap (fun _ s₇ ⟨m₇, l₇, h₈, tk₈, e, Ry, hm, hl⟩ => ?_) fun _ _ x => noX x)
        subst e hm hl
        exact wpAny_pure (wpAny_pure ⟨rfl, nx (by simpa using Ry) j⟩)
    · have hin : i = N := by omega
      subst hin
      have q1 := W.done o₁ m₁ _ (fun r m₂ l₂ => r = none ∧ m₂ = m₁ ∧ l₂ = (acc, lst us us.length) :: l₁) NoX Si (ro2 Ji) ⟨rfl, rfl, rfl⟩ |>.run h₂ tk₂ Ri
      refine wpAny_mono q1 (fun r s₂ ⟨m₂, l₂, h₃, tk₃, e, Rn, hr, hm, hl⟩ => ?_) fun _ _ x => noX x
      subst e hr hm hl
      refine wpAny_pure ?_
      show RR _ _ _ _
      rw [hsg]
      refine fin acc H.objs.size h₃ tk₃ (fun y => lookL y m₂) _ (hbk Rn) (hL ▸ Rn.fr.ns) ?_ (fun q => ?_) ?_ (fun q => ?_) (done c₂ acc m₂ us l₁ Ji)
      · intro q
        obtain ⟨oL, es, ep, hLL, r⟩ := R₁.fr.ns
        exact Nat.lt_irrefl _ (q ▸ Heap.lt_size hLL)
      · obtain ⟨p, hp, e⟩ := List.mem_map.mp q
        exact (Rn.news p hp).2.1 (by rw [hL]; exact e)
      · cases q : c.h0.get? H.objs.size with
        | none => rfl
        | some o => exact absurd (Heap.lt_size (R₁.fr.keep _ _ q)) (Nat.lt_irrefl _)
      · obtain ⟨p, hp2, e⟩ := List.mem_map.mp q
        obtain ⟨⟨sl, e2⟩, _⟩ := R₁.outs p hp2
        have := Heap.lt_size e2
        rw [e] at this
        exact Nat.lt_irrefl _ this
  have e0 : ({ c.sg with heap := Mine.pushN k (H.push { cls := .type "dict", data := .dict #[] }), toks := tk } : Shared) = c₂.s (Mine.pushN k (H.push { cls := .type "dict", data := .dict #[] })) tk := (hsg _ _).symm
  rw [e0]
  refine codeAny_compStart_list (loop _ _ R₄) ?_
  have q0 := W.self 0 o₀ mC _ (fun v m₂ l₂ => v = .ref I ∧ m₂ = mC ∧ l₂ = (I, o₀) :: (acc, lst [] 0) :: cellLed k (H.objs.size + 1) l₀) NoX h0 (ro2 J0) ⟨rfl, rfl, rfl⟩ |>.run _ tk R₄
  rw [hM, hAA] at q0
  refine wpAny_mono q0 (fun v s' ⟨m₂, l₂, h₃, tk₃, e, Rn, hv, hm, hl⟩ => ?_) fun _ _ x => noX x
  subst e hv hm hl
  exact loop _ _ Rn
end
-- TN
section
variable {c : Cx} {m : Loc} {led : Led} {X : Value → Loc → Led → Prop} {Q : Value → Loc → Led → Prop} {env : Env}
theorem T.name_c {x : Str} {pos : Pos} {v : Value} {a : Addr} (hk : env.scope.kind = .function) (hl : env.kindOf x = some .cell) (hd : (x == ("__debug__" : Str)) = false) (hc : env.cells.lookup x = some a) (hm : (a, cellO (some v)) ∈ led)
    (h : Q v m led) : T c m led (eval (.Name x pos) env) Q X := .mk fun _ _ R => wpAny_Name (wpAny_loadName_cell hk hl hc ⟨_, R.get hm, rfl⟩ (post_ok R h)) hd
theorem T.name_f {x : Str} {pos : Pos} {v : Value} {a : Addr} (hk : env.scope.kind = .function) (hl : env.kindOf x = some .free) (hd : (x == ("__debug__" : Str)) = false) (hn : (x == ("__classdict__" : Str)) = false) (hc : env.cells.lookup x = some a) (hm : (a, cellO (some v)) ∈ led)
    (h : Q v m led) : T c m led (eval (.Name x pos) env) Q X := .mk fun _ _ R => wpAny_Name (wpAny_loadName_free hk hl hc ⟨_, R.get hm, rfl⟩ (post_ok R h) hn) hd
theorem T.store_c {x : Str} {v : Value} {v₀ : Option Value} {a : Addr} {led' : Led} {Q : Unit → Loc → Led → Prop} (hk : env.scope.kind = .function) (hl : env.kindOf x = some .cell) (hc : env.cells.lookup x = some a) (u : Up a (cellO v₀) (cellO (some v)) led led')
    (h : Q () m led') : T c m led (storeName env x v) Q X := .mk fun hp tk R => by
  have ho := (R.news _ u.mem).1
  unfold storeName
  simp only [hl, hk]
  refine wpAny_bind (wpAny_cellOf hc ?_)
  unfold cellSet
  refine wpAny_bind (wpAny_load ho (wpAny_update ho ?_))
  exact post_ok (R.up u (Heap.get?_update_self _ ho rfl) fun b x hb e => (Heap.SameBut.update ..).extBut b x hb e) h
/-- the arguments laid into the names -/
def Lay (c : Cx) (env : Env) (K : Loc → Led → Prop) : List (Str × Value) → Loc → Led → Prop
  | [], m, led => K m led
  | (n, v) :: r, m, led => T c m led (storeName env n v) (fun _ m' l' => Lay c env K r m' l') NoX
theorem Lay.run {env : Env} {K : Loc → Led → Prop} {E : Value → Shared → Prop} (f : Str × Value → PUnit → Sem (ForInStep PUnit)) (hf : ∀ n v u, f (n, v) u = (do storeName env n v; pure (.yield ⟨⟩))) :
    ∀ (binds : List (Str × Value)) (m : Loc) (led : Led) (hp : Heap) (tk : Nat) (Q : PUnit → Shared → Prop), Lay c env K binds m led → Rep c m led hp → (∀ m' l' h' tk', Rep c m' l' h' → K m' l' → Q ⟨⟩ (c.s h' tk')) → wpAny c.M c.A (forIn binds ⟨⟩ f) Q E (c.s hp tk)
  | [], m, led, hp, tk, Q, h, R, k => by rw [List.forIn_nil]; exact wpAny_pure (k _ _ _ _ R h)
  | (n, v) :: r, m, led, hp, tk, Q, h, R, k => by
    rw [List.forIn_cons, hf]
    have h' : T c m led (storeName env n v) (fun _ m' l' => Lay c env K r m' l') NoX := h
    exact wpAny_bind (wpAny_bind (wpAny_mono (h'.run hp tk R) (fun _ s' ⟨m', l', h'', tk', e, R', q⟩ => by subst e; exact wpAny_pure (Lay.run f hf r m' l' h'' tk' Q q R' k)) fun _ _ ⟨_, _, _, _, _, _, x⟩ => x.elim))
abbrev Cx.und (c : Cx) (A : Around) : Cx := { c with A := A }
abbrev envD (qual : Str) (scope : Scope) (L f : Addr) (cdv : Value) (cl : List (Str × Addr)) : Env := envX qual scope L f cdv (cellsFrom (L + 1) scope.names cl)
/-- a call of a def of the text, with cells of its own -/
theorem T.defC {n : Nat} {Q : Value → Loc → Led → Prop} {name qual : Str} {params : Arguments} {body : List Stmt} {scope : Scope} {dV kV doc pm cdv ct oc : Value} {an od : Option Addr} {osl : Array (Option Value)} {f : Addr} {args : List Value} {binds : List (Str × Value)} (k : Nat) (m₀ : Loc)
    (G : Gd c (n + 1)) (ho : c.K.lookup f = some ⟨oc, od, .func (fnOf name qual params body scope dV kV doc pm an cdv ct), osl⟩) (hcd : codeIn c.K cdv qual = true)
    (hbind : bindArgs (fnOf name qual params body scope dV kV doc pm an cdv ct) ⟨args, []⟩ = Pure.pure binds)
    (hpc : ∀ h, pushCells h scope.names = Mine.pushN k h) (hm : ∀ y, lookL y m₀ = none) (hco : scope.isCoroutine = false) (hgen : scope.isGenerator = false) (hk : scope.kind = .function)
    (h : ∀ (c' : Cx) (A' : Around), c'.w = c.w → Gd c' n → Lay (c'.und A') (envD qual scope c'.L f cdv []) (fun m₁ l₁ => T c' m₁ l₁ (execs body (envD qual scope c'.L f cdv [])) (fun fl _ l' => ∃ l'', Sub l'' l' ∧ Q (match fl with | .ret v => v | _ => .none) m l'') NoX) binds m₀ (cellLed k (c'.L + 1) led)) :
    T c m led (call (.ref f) args) Q X := .mk fun hp tk R => by
  have kp : ∀ b o, c.h0.get? b = some o → hp.get? b = some o := R.fr.keep
  have hX : c.K.In hp := Frag.In.keeps G.K kp
  have d1 := G.depth
  refine wpAny_call (codeAny_call_function (fd := fnOf name qual params body scope dV kV doc pm an cdv ct) (body := body) (by omega) (hX _ _ ho) rfl hco hgen rfl (codeRec_of hX hcd) ?_)
  rw [hbind]
  refine wpAny_pure ?_
  simp only [newFunctionEnv, Option.isSome_none, Bool.false_eq_true, if_false]
  refine wpAny_bind (wpAny_alloc ?_)
  refine wpAny_bind (wpAny_layCells _ (fun name kind cells => by cases hkc : kind == NameKind.cell <;> simp) _ _ _ _ ?_)
  dsimp only
  rw [hpc, Heap.size_push]
  generalize hc2 : c.in hp led (c.A.deeper (envD qual scope hp.objs.size f cdv [])) = c₂
  have hw : c₂.w = c.w := by rw [← hc2]; rfl
  have hL : c₂.L = hp.objs.size := by rw [← hc2]; rfl
  have hA₂ : c₂.A = c.A.deeper (envD qual scope hp.objs.size f cdv []) := by rw [← hc2]; rfl
  have hsg : ∀ h tk, c₂.s h tk = c.s h tk := fun h tk => by rw [← hc2]; rfl
  have hM : c₂.M = c.M := by rw [← hc2]; rfl
  have G₂ : Gd c₂ n := by rw [← hc2]; exact G.in R (Nat.le_refl _) (by show c.A.units + 3 ≤ _; omega) G.hdl (.inr ⟨envD qual scope hp.objs.size f cdv [], rfl, (by show scope.kind ≠ _; rw [hk]; intro q; cases q), rfl⟩)
  have hh := h c₂ c.A.in1 hw G₂
  rw [hL] at hh
  have R₁ : Rep c₂ m₀ led (hp.push { cls := .type "frame", data := .dict #[] }) := by
    rw [← hc2]
    refine R.enter ?_ fun b o e => Heap.get?_push_of_some _ e
    have : (fun y => lookL y m₀) = fun _ => none := funext hm
    rw [this]; exact Heap.Ns.new hp (.type "frame")
  have R₂ := R₁.pushN (hp := hp) k
  rw [Heap.size_push] at R₂
  have R₃ : Rep (c₂.und c.A.in1) m₀ (cellLed k (hp.objs.size + 1) led) (Mine.pushN k (hp.push { cls := .type "frame", data := .dict #[] })) := ⟨R₂.fr, R₂.news, R₂.nd, R₂.outs⟩
  have hM1 : (c₂.und c.A.in1).M = c.M := by rw [← hc2]; rfl
  refine wpAny_bind ?_
  have run : ∀ (fF : Str × Value → PUnit → Sem (ForInStep PUnit)) (hf : ∀ n v u, fF (n, v) u = (do storeName (envD qual scope hp.objs.size f cdv []) n v; Pure.pure (.yield ⟨⟩))), wpAny c.M c.A.in1 (forIn binds ⟨⟩ fF)
      (fun _ s' => ∃ m' l' h' tk', s' = c₂.s h' tk' ∧ Rep c₂ m' l' h' ∧ T c₂ m' l' (execs body (envD qual scope hp.objs.size f cdv [])) (fun fl _ l' => ∃ l'', Sub l'' l' ∧ Q (match fl with | .ret v => v | _ => .none) m l'') NoX) (fun _ _ => False) (c.s (Mine.pushN k (hp.push { cls := .type "frame", data := .dict #[] })) tk) := fun fF hf => by
    have r := Lay.run (c := c₂.und c.A.in1) (E := fun e s' => False) (env := envD qual scope hp.objs.size f cdv []) fF hf binds m₀ _ _ tk (fun _ s' => ∃ m' l' h' tk', s' = c₂.s h' tk' ∧ Rep c₂ m' l' h' ∧ T c₂ m' l' (execs body (envD qual scope hp.objs.size f cdv [])) (fun fl _ l' => ∃ l'', Sub l'' l' ∧ Q (match fl with | .ret v => v | _ => .none) m l'') NoX) hh R₃
      (fun m' l' h' tk' R' q => ⟨m', l', h', tk', rfl, ⟨R'.fr, R'.news, R'.nd, R'.outs⟩, q⟩)
    rw [hM1] at r
    have e : (c₂.und c.A.in1).s (Mine.pushN k (hp.push { cls := .type "frame", data := .dict #[] })) tk = c.s (Mine.pushN k (hp.push { cls := .type "frame", data := .dict #[] })) tk := hsg _ _
    exact e ▸ r
  refine wpAny_mono (run _ (fun n v u => rfl)) (fun _ s' ⟨m', l', h', tk', e, R', q⟩ => ?_) fun _ _ x => x.elim
  subst e
  refine wpAny_pure ⟨G₂.lim.keeps R'.fr.keep, codeAny_func ?_⟩
  have qq := q.run h' tk' R'
  rw [hM, hA₂] at qq
  refine wpAny_mono qq (fun fl s'' ⟨m'', l'', h'', tk'', e, R'', l3, hs, q3⟩ => ?_) fun _ _ ⟨_, _, _, _, _, _, x⟩ => x.elim
  subst e
  rw [hsg]
  have R5 : Rep c m l'' h'' := by rw [← hc2] at R''; exact R.back R''
  exact ⟨m, l3, h'', tk'', rfl, R5.sub hs, q3⟩
end
-- F7
local macro_rules | `(tactic| wtm_at "sub") => `(tactic| first | exact Sub.refl _ | (apply Sub.pick; wtm_at "bring"; wtm_at "sub") | (refine Sub.cons ?_; wtm_at "sub") | (refine Sub.app ?_; wtm_at "sub"))
local macro_rules | `(tactic| wtm_at "c") => `(tactic| first
  | (with_reducible refine T.execs_cons2 fun _ _ _ _ => ?_)
  | (with_reducible refine T.execs_nil ?_)
  | (with_reducible refine T.ret ?_)
  | (with_reducible refine T.assign (by kernel_rfl) ?_)
  | (with_reducible refine T.expr (by kernel_rfl) (by kernel_rfl) ?_)
  | (with_reducible refine T.ite ?_)
  | (with_reducible refine T.binop ?_)
  | (with_reducible refine T.compare (by kernel_rfl) ?_)
  | (with_reducible refine T.test (by kernel_rfl) ?_)
  | (with_reducible refine T.truthy_bool ?_)
  | (with_reducible refine T.int ?_; intro _)
  | (with_reducible refine T.name (by kernel_rfl) (by with_unfolding_all rfl) (by kernel_rfl) (by kernel_rfl) (by with_unfolding_all rfl) ?_)
  | (with_reducible refine T.store (by kernel_rfl) (by with_unfolding_all rfl) (by kernel_rfl) ?_)
  | (with_reducible refine T.sub_script ?_)
  | (with_reducible refine T.add ?_; intro _)
  | (with_reducible refine T.sub ?_; intro _)
  | (with_reducible refine T.and ?_; intro _)
  | (with_reducible refine T.eq ?_)
  | (with_reducible refine T.ne ?_)
  | (with_reducible refine T.lt ?_)
  | (with_reducible refine T.gt ?_)
  | (with_reducible refine T.call_name (by kernel_rfl) ?_)
  | (with_reducible refine T.snil ?_)
  | (with_reducible refine T.scons ?_)
  | (with_reducible refine (by assumption : Hid _ _) _ _ _ ?_)
  | (with_reducible refine seq_ret ?_)
  | (with_reducible refine seq_brk ?_)
  | (with_reducible refine seq_cont ?_)
  | (with_reducible refine T.ifexp_cc ?_)
  | (with_reducible refine T.ifexp ?_)
  | (with_reducible refine T.mod (by decide) ?_; intro _)
  | (with_reducible refine T.fdiv (by decide) (PyProof.noPylong_small (by decide)) ?_; intro _)
  | (with_reducible refine T.str ?_; intro _)
  | ((with_reducible refine' T.name_c (by kernel_rfl) (by with_unfolding_all rfl) (by kernel_rfl) (by with_unfolding_all rfl) ?u ?_); (case u => wtm_at "mem"))
  | ((with_reducible refine' T.name_f (by kernel_rfl) (by kernel_rfl) (by kernel_rfl) (by kernel_rfl) (by with_unfolding_all rfl) ?u ?_); (case u => wtm_at "mem"))
  | (with_reducible refine T.cbool ?_)
  | (with_reducible refine T.cnone ?_))
local macro_rules | `(tactic| wtm_at "range") => `(tactic| (refine T.bltn (by assumption) (g_no_range _) b_range (by decide) rfl rfl rfl (by kernel_rfl) (by kernel_rfl) ?_; refine T.cwt ?_; repeat' wtm_at "c"))
local macro_rules | `(tactic| wtm_at "len") => `(tactic| (refine T.bltn (by assumption) (g_no_len _) b_len (by decide) rfl rfl rfl (by kernel_rfl) (by kernel_rfl) ?_; refine T.cwb ?_; repeat' wtm_at "c"))
theorem lookL_none {m : Loc} (h : (m.all fun p => p.2.isNone) = true) (y : Str) : lookL y m = none := by
  induction m with
  | nil => rfl
  | cons p r ih =>
    obtain ⟨x, u⟩ := p
    rw [List.all_cons, Bool.and_eq_true] at h
    rw [lookL_cons, ih h.2]
    split
    · exact Option.isNone_iff_eq_none.mp h.1
    · rfl
def ownOf (ms : List (Nat × Nat)) (k : Nat) : List Nat := (ms.filter fun p => p.1 == k).map (·.2)
def dirsOf (own : List Nat) : List Str := (own.filter fun md => md / 4096 % 16 == 4).map signs
def headOf (own : List Nat) : Str := (dirsOf own ++ [Str.ofString ""]).headD (Str.ofString "")
def climbed (ps : List Nat) (ms : List (Nat × Nat)) (k : Nat) : Str := if ownOf ms k = [] then (if h : ps.getD k 0 < k then climbed ps ms (ps.getD k 0) else Str.ofString "") else headOf (ownOf ms k)
termination_by k
section
variable {c : Cx} {m : Loc} {led : Led} {X : Value → Loc → Led → Prop} {Q : Value → Loc → Led → Prop} {env : Env}
/-- two lists compared by their lengths: one is empty -/
theorem T.ne_nil {x y : Addr} {vs : List Value} {e e' : Nat} {n : Nat} (G : Gd c n) (hx : (x, lst vs e) ∈ led) (hy : (y, lst [] e') ∈ led) (h : Q (.bool (!vs.isEmpty)) m led) : T c m led (compareOp .NotEq (.ref x) (.ref y)) Q X := .mk fun hp tk R => by
  have hu : c.A.units < cLine := Nat.lt_of_le_of_lt (Nat.le_add_right _ _) G.units
  cases vs with
  | nil =>
    refine EqBoolInt.of_rcne (SeqAt.RcNeAt.lists (e := fun _ => true) (R.isList hx) (R.isList hy) rfl hu (fun j h1 _ => absurd h1 (Nat.not_lt_zero _))) ?_
    exact post_ok R h
  | cons v r =>
    refine EqBoolInt.of_rcne (SeqAt.RcNeAt.lists_lengths (R.isList hx) (R.isList hy) (by simp) hu) ?_
    exact post_ok R h
theorem climbed_T {n : Nat} (G : Gd c (n + 2)) {ps : List Nat} {ms : List (Nat × Nat)} (H : TreeOk ps ms) {k : Nat} (hk : k < ps.length) {t : Tok} {l ml : Addr} {us ws : List Value} {e e2 : Nat} (hl : (l, lst us e) ∈ led) (hu : IntsAre us (nat2 ps)) (hm : (ml, lst ws e2) ∈ led) (hw : Pairs led ws ms)
    (h : ∀ t, Q (.str (climbed ps ms k) t) m led) : T c m led (call (.ref 303) [.int (k : Nat) t, .ref l, .ref ml]) Q X := by
  refine T.defC (binds := [(Str.ofString "k", .int (k : Nat) t), (Str.ofString "parents", .ref l), (Str.ofString "modes", .ref ml)]) 1 [(Str.ofString "k", none), (Str.ofString "parents", none), (Str.ofString "modes", none), (Str.ofString "own", none)] G rfl (by kernel_rfl) (by kernel_rfl) (fun _ => rfl) (lookL_none rfl) rfl rfl rfl ?_
  intro c' A' hcw G'
  refine T.store_c (by kernel_rfl) (by kernel_rfl) (by with_unfolding_all rfl) Up.head ?_
  refine T.store (by kernel_rfl) (by with_unfolding_all rfl) (by kernel_rfl) ?_
  refine T.store (by kernel_rfl) (by with_unfolding_all rfl) (by kernel_rfl) ?_
  show T c' _ _ _ _ _
  wtm_at "c"
  refine T.while (fun x m₁ l₁ => x < ps.length ∧ climbed ps ms x = climbed ps ms k ∧ ∃ t₁ o1, m₁ = [(Str.ofString "k", none), (Str.ofString "parents", some (.ref l)), (Str.ofString "modes", some (.ref ml)), (Str.ofString "own", o1)] ∧ Sub ((c'.L + 1, cellO (some (.int (x : Nat) t₁))) :: led) l₁) k ⟨hk, rfl, t, none, rfl, .refl _⟩ ?_
  rintro x m₁ l₁ ⟨hx, hcl, t₁, o1, rfl, hs⟩
  refine T.part hs ?_
  refine T.truth rfl ?_
  refine T.cbool ?_
  refine T.truthy_bool ?_
  rw [if_pos rfl]
  wtm_at "c"
  refine T.assign_comp (cl := [(Str.ofString "k", c'.L + 1)]) (by kernel_rfl) (by kernel_rfl) (by kernel_rfl) (by kernel_rfl) (by kernel_rfl) (by with_unfolding_all rfl) (by kernel_rfl) ?_
  repeat' wtm_at "c"
  refine T.itA_list (x := ml) (vs := ws) (n := e2) G'.hdl (fun p hp => ?_) fun I oI S W hS => ?_
  · rw [List.mem_singleton.mp hp]; exact .inl (.tail _ hm)
  refine TK.loop W hS G' 0 (fun _ => rfl) (fun c'' i m₁ vs l₁ => ∃ o1 o2, m₁ = [(Str.ofString ".0", none), (Str.ofString "node", o1), (Str.ofString "mode", o2)] ∧ l₁ = (c'.L + 1, cellO (some (.int (x : Nat) t₁))) :: led ∧ IntsAre vs (nat2 (ownOf (ms.take i) x))) [(Str.ofString ".0", none), (Str.ofString "node", none), (Str.ofString "mode", none)] (lookL_none rfl) ?_ ?_ ?_ ?_
  · rintro c'' i m₁ vs l₁ ⟨_, _, _, rfl, _⟩ p hp
    rw [List.mem_singleton.mp hp]; exact .inl (.tail _ hm)
  · intro c'' _ _ _
    exact ⟨none, none, rfl, rfl, .nil⟩
  · rintro c'' i v o acc vs m₁ l₁ hcw2 hA2 G'' hst hi hv ⟨o1, o2, rfl, rfl, hvs⟩
    obtain ⟨⟨nd, md⟩, y, t1, t2, hpi, rfl, hy⟩ := hw.at hv
    refine T.asTup G''.hdl (vs := [.int (nd : Nat) t1, .int (md : Nat) t2]) (fun p hp => ?_) rfl rfl rfl ?_
    · rw [List.mem_singleton.mp hp]; exact .inl (.tail _ (.tail _ (.tail _ hy)))
    refine T.inOrder (T.asName ?_)
    repeat' wtm_at "c"
    refine T.inOrder (T.asName ?_)
    repeat' wtm_at "c"
    refine T.inOrder0 ?_
    refine T.tests_one ?_
    repeat' wtm_at "c"
    have hil : i < ms.length := by rw [← hw.1]; exact hi
    by_cases hnx : nd = x
    · subst hnx
      rw [show ((nd : Int) == (nd : Int)) = true from beq_self_eq_true _, if_pos rfl]
      repeat' wtm_at "c"
      refine ⟨?_, _, .refl _, _, _, rfl, rfl, ?_⟩
      · have := ints_len hvs
        have h2 : (ownOf (ms.take i) nd).length ≤ ms.length := by
          unfold ownOf
          rw [List.length_map]
          exact Nat.le_trans (List.length_filter_le ..) (by rw [List.length_take]; exact Nat.min_le_right ..)
        have := H.mhi
        unfold sizeLine
        omega
      · have : ownOf (ms.take (i + 1)) nd = ownOf (ms.take i) nd ++ [md] := by
          unfold ownOf
          rw [take_snoc hpi, List.filter_append]; simp
        rw [this]
        exact ints_snoc hvs
    · have hb : ((nd : Int) == (x : Int)) = false := by rw [beq_eq_false_iff_ne]; omega
      rw [hb, if_neg Bool.false_ne_true]
      refine ⟨_, .refl _, _, _, rfl, rfl, ?_⟩
      have : ownOf (ms.take (i + 1)) x = ownOf (ms.take i) x := by
        unfold ownOf
        rw [take_snoc hpi, List.filter_append]; simp [hnx]
      rw [this]
      exact hvs
  · rintro c'' acc m₁ vs l₂ ⟨_, _, _, rfl, hvs⟩
    rw [hw.1, List.take_length] at hvs
    repeat wtm_at "un"
    show T c' _ _ _ _ _
    repeat' wtm_at "c"
    refine T.list (by kernel_rfl) ?_
    refine T.snil ⟨by decide, fun em => ?_⟩
    refine T.ne_nil G' (by wtm_at "mem") (by wtm_at "mem") ?_
    repeat' wtm_at "c"
    have hvl := ints_len hvs
    by_cases hown : ownOf ms x = []
    · have hv0 : vs = [] := by
        rw [hown] at hvl
        exact List.eq_nil_of_length_eq_zero hvl
      subst hv0
      rw [if_neg (by simp)]
      wtm_at "c"
      have hx0 : 0 < x := by
        rcases Nat.eq_zero_or_pos x with h0 | h0
        · obtain ⟨md, hmd⟩ := H.root
          exfalso
          have : md ∈ ownOf ms x := by
            unfold ownOf
            exact List.mem_map.mpr ⟨(0, md), List.mem_filter.mpr ⟨hmd, by simp [h0]⟩, rfl⟩
          rw [hown] at this; cases this
        · exact h0
      have hpx := H.tree.lt x hx0 hx
      obtain ⟨t2, hat⟩ := ints_at hu hx
      repeat wtm_at "un"
      wtm_at "c"
      refine T.assign (by kernel_rfl) ?_
      repeat' wtm_at "c"
      refine T.itemN (by wtm_at "mem") (by have := H.hi; omega) hat rfl ?_
      refine T.store_c (by kernel_rfl) (by kernel_rfl) (by with_unfolding_all rfl) (Up.tail (Up.tail Up.head)) ?_
      repeat' wtm_at "c"
      refine ⟨ps.getD x 0, hpx, by omega, ?_, t2, _, rfl, ?_⟩
      · rw [← hcl, climbed.eq_1 ps ms x, if_pos hown, dif_pos hpx]
      · exact .cons (.cons (.refl _))
    · have hv0 : vs ≠ [] := fun q => by
        rw [q] at hvl
        exact hown (List.eq_nil_of_length_eq_zero hvl.symm)
      rw [if_pos (by simp [hv0])]
      repeat' wtm_at "c"
      refine T.comp (cl := []) (by kernel_rfl) (by kernel_rfl) (by kernel_rfl) ?_
      repeat' wtm_at "c"
      refine T.itA_list (x := acc) (vs := vs) (n := vs.length) G'.hdl (fun p hp => ?_) fun I oI S W hS => ?_
      · rw [List.mem_singleton.mp hp]; exact .inl (.tail _ (.head _))
      refine TK.loop W hS G' 0 (fun _ => rfl) (fun c'' i m₁ us' l₁ => ∃ o1, m₁ = [(Str.ofString ".0", none), (Str.ofString "mode", o1)] ∧ l₁ = (em, lst [] 0) :: (acc, lst vs vs.length) :: (c'.L + 1, cellO (some (.int (x : Nat) t₁))) :: led ∧ StrsAre us' (dirsOf ((ownOf ms x).take i))) [(Str.ofString ".0", none), (Str.ofString "mode", none)] (lookL_none rfl) ?_ ?_ ?_ ?_
      · rintro c'' i m₁ us' l₁ ⟨_, _, rfl, _⟩ p hp
        rw [List.mem_singleton.mp hp]; exact .inl (.tail _ (.head _))
      · intro c'' _ _ _
        exact ⟨none, rfl, rfl, .nil⟩
      · rintro c'' i v o acc' us' m₁ l₁ hcw2 hA2 G'' hst hi hv ⟨o1, rfl, rfl, hus⟩
        have hio : i < (ownOf ms x).length := by omega
        obtain ⟨t3, hat⟩ := ints_at hvs hio
        rw [hv] at hat
        cases hat
        have hgd : (ownOf ms x)[i]? = some ((ownOf ms x).getD i 0) := by
          rw [List.getD_eq_getElem?_getD, List.getElem?_eq_getElem hio]; rfl
        generalize (ownOf ms x).getD i 0 = md at hgd hv ⊢
        refine T.asName ?_
        repeat' wtm_at "c"
        refine T.tests_one ?_
        repeat' wtm_at "c"
        rw [fdm md 4096 16, show ((((md / 4096 % 16 : Nat) : Int) == 4)) = (md / 4096 % 16 == 4) by rw [Bool.eq_iff_iff, beq_iff_eq, beq_iff_eq]; omega]
        have hd : dirsOf ((ownOf ms x).take (i + 1)) = dirsOf ((ownOf ms x).take i) ++ if (md / 4096 % 16 == 4) = true then [signs md] else [] := by
          unfold dirsOf
          rw [take_snoc hgd, List.filter_append, List.map_append]
          by_cases hb : (md / 4096 % 16 == 4) = true
          · simp [hb]
          · simp [hb]
        rw [hd]
        cases hb : (md / 4096 % 16 == 4) with
        | true =>
          rw [if_pos rfl, if_pos rfl]
          repeat' wtm_at "c"
          refine T.global G'' (g_signs _) rfl rfl (by kernel_rfl) (by kernel_rfl) ?_
          refine T.cw G'' (by kernel_rfl) ?_
          repeat' wtm_at "c"
          refine signs_T G'' fun t4 => ?_
          refine ⟨?_, _, .refl _, _, rfl, rfl, StrsAre.snoc hus⟩
          have h1 := StrsAre.len_eq hus
          have h2 : (dirsOf ((ownOf ms x).take i)).length ≤ (ownOf ms x).length := by
            unfold dirsOf
            rw [List.length_map]
            exact Nat.le_trans (List.length_filter_le ..) (by rw [List.length_take]; exact Nat.min_le_right ..)
          have h3 : (ownOf ms x).length ≤ ms.length := by unfold ownOf; rw [List.length_map]; exact List.length_filter_le ..
          have := H.mhi
          unfold sizeLine
          omega
        | false =>
          rw [if_neg Bool.false_ne_true, if_neg Bool.false_ne_true, List.append_nil]
          exact ⟨_, .refl _, _, rfl, rfl, hus⟩
      · rintro c'' acc' m₁ us' l₂ ⟨_, _, rfl, hus⟩
        rw [hvl, List.take_length] at hus
        have h1 := StrsAre.len_eq hus
        have h2 : (dirsOf (ownOf ms x)).length ≤ (ownOf ms x).length := by
          unfold dirsOf
          rw [List.length_map]
          exact List.length_filter_le ..
        have h3 : (ownOf ms x).length ≤ ms.length := by unfold ownOf; rw [List.length_map]; exact List.length_filter_le ..
        have := H.mhi
        refine T.list (by kernel_rfl) ?_
        repeat' wtm_at "c"
        refine ⟨by show 1 ≤ _; decide, fun e1 => ?_⟩
        refine T.addl (by wtm_at "mem") (by wtm_at "mem") (by unfold sizeLine; simp; omega) fun e3 => ?_
        repeat' wtm_at "c"
        rename_i tk0 _
        obtain ⟨t4, hh⟩ := StrsAre.at (StrsAre.snoc (t := tk0) (y := Str.ofString "") hus) (j := 0) (y := headOf (ownOf ms x)) (by
          unfold headOf
          cases dirsOf (ownOf ms x) <;> rfl)
        refine T.itemN (k := 0) (by wtm_at "mem") (by decide) hh rfl ?_
        repeat wtm_at "un"
        refine ⟨led, by wtm_at "sub", ?_⟩
        have := h t4
        rw [← hcl, climbed.eq_1 ps ms x, if_neg hown] at this
        exact this
end
-- F8
def ListsAre (led : Led) (vs : List Value) (rs : List (List Nat)) : Prop := vs.length = rs.length ∧ ∀ (i : Nat) (r : List Nat), rs[i]? = some r → ∃ (x : Addr) (us : List Value) (e : Nat), vs[i]? = some (Value.ref x) ∧ (x, lst us e) ∈ led ∧ IntsAre us (nat2 r)
theorem ListsAre.mono {led led' : Led} {vs : List Value} {rs : List (List Nat)} (h : ListsAre led vs rs) (hs : ∀ p ∈ led, p ∈ led') : ListsAre led' vs rs := ⟨h.1, fun i p hp => let ⟨x, t, t', a, b, d⟩ := h.2 i p hp; ⟨x, t, t', a, hs _ b, d⟩⟩
theorem ListsAre.nil {led : Led} : ListsAre led [] [] := ⟨rfl, fun i r h => by simp at h⟩
theorem ListsAre.snoc {led : Led} {vs : List Value} {rs : List (List Nat)} {x : Addr} {r : List Nat} {us : List Value} {e : Nat} (h : ListsAre led vs rs) (hx : (x, lst us e) ∈ led) (hu : IntsAre us (nat2 r)) : ListsAre led (vs ++ [.ref x]) (rs ++ [r]) := by
  refine ⟨by simp [h.1], fun i p hp => ?_⟩
  by_cases hi : i < rs.length
  · rw [List.getElem?_append_left hi] at hp
    obtain ⟨y, a, b, h1, h2, h3⟩ := h.2 i p hp
    exact ⟨y, a, b, by rw [List.getElem?_append_left (by rw [h.1]; exact hi)]; exact h1, h2, h3⟩
  · have hlt := (List.getElem?_eq_some_iff.mp hp).1
    have hie : i = rs.length := by simp at hlt; omega
    subst hie
    have : p = r := by simpa using hp.symm
    subst this
    exact ⟨x, us, e, by rw [← h.1]; simp, hx, hu⟩
theorem Sub.left {g a b : Led} (h : Sub a b) : Sub (g ++ a) (g ++ b) := let ⟨k, p, q⟩ := h; ⟨g ++ k, p.append_left g, q.append_left g⟩
theorem Sub.keep {p : Addr × Obj} {a b : Led} (h : Sub a b) : Sub (p :: a) (p :: b) := let ⟨k, s, q⟩ := h; ⟨p :: k, s.cons p, q.cons_cons p⟩
def dps (ps : List Nat) : List Nat := (List.range ps.length).map (dep ps)
def roundAt (ps : List Nat) (d : Nat) : List Nat := (List.range ps.length).filter fun k => dep ps k == d
theorem g_depth (w : World) : nsIn (kk.heap_1 w.params) mainGlobals (Str.ofString "_law_depth") = some (some (.ref 310)) := by kernel_rfl
theorem dep_le (ps : List Nat) (k : Nat) : dep ps k ≤ k := by
  induction k using Nat.strongRecOn with
  | ind k ih =>
    rw [dep]
    split
    · rename_i h
      have := ih _ h
      omega
    · omega
section
variable {c : Cx} {m : Loc} {led : Led} {X : Value → Loc → Led → Prop} {Q : Value → Loc → Led → Prop} {env : Env}
theorem T.max {l : Addr} {vs : List Value} {e : Nat} {ns : List Int} (hh : c.A.handled = none) (hl : (l, lst vs e) ∈ led) (hi : IntsAre vs ns) (hne : 0 < ns.length) (h : ∀ M t, M ∈ ns → (∀ a ∈ ns, a ≤ M) → Q (.int M t) m led) : T c m led (call (.builtin "max") [.ref l]) Q X := .mk fun hp tk R =>
  max_list_N (s := c.s hp tk) hh (full_fr R) (full_news R) (R.isList hl) hi hne fun h' M t tk' F N h1 h2 => ⟨m, led, h', tk', rfl, R.of_full F N R.nd, h M t h1 h2⟩
theorem rounds_T {n : Nat} (G : Gd c (n + 2)) {ps : List Nat} (H : Tree ps) (hlo : 0 < ps.length) (hhi : ps.length ≤ 10) {l : Addr} {us : List Value} {e : Nat} (hl : (l, lst us e) ∈ led) (hu : IntsAre us (nat2 ps))
    (h : ∀ D x vs g, D ∈ dps ps → (∀ a ∈ dps ps, a ≤ D) → ListsAre g vs ((List.range (D + 1)).map (roundAt ps)) → Q (.ref x) m ((x, lst vs vs.length) :: g ++ led)) : T c m led (call (.ref 315) [.ref l]) Q X := by
  refine T.defC (binds := [(Str.ofString "parents", .ref l)]) 2 [(Str.ofString "parents", none), (Str.ofString "depths", none)] G rfl (by kernel_rfl) (by kernel_rfl) (fun _ => rfl) (lookL_none rfl) rfl rfl rfl ?_
  intro c' A' hcw G'
  refine T.store_c (by kernel_rfl) (by kernel_rfl) (by with_unfolding_all rfl) (Up.tail Up.head) ?_
  show T c' _ _ _ _ _
  wtm_at "c"
  refine T.assign (by kernel_rfl) ?_
  refine T.comp (cl := [(Str.ofString "parents", c'.L + 1)]) (by kernel_rfl) (by kernel_rfl) (by kernel_rfl) ?_
  repeat' wtm_at "c"
  wtm_at "range"
  wtm_at "len"
  have hul := ints_len hu
  refine T.len (l := l) (by wtm_at "mem") (by omega) fun t1 => ?_
  repeat' wtm_at "c"
  refine T.range1 fun r t3 t4 => ?_
  rw [hul]
  refine T.itA_range G'.hdl (.head _) (by omega) (by omega) (by omega) (by omega) fun I oI S W hS => ?_
  rw [show (((ps.length : Nat) : Int) - 0).toNat = ps.length by omega] at W
  refine TK.loop W hS G' 0 (fun _ => rfl) (fun c'' i m₁ vs l₁ => ∃ o1, m₁ = [(Str.ofString ".0", none), (Str.ofString "k", o1)] ∧ l₁ = (r, rngO 0 (ps.length : Nat) t3 t1 t4) :: (c'.L + 1 + 1, cellO none) :: (c'.L + 1, cellO (some (.ref l))) :: led ∧ IntsAre vs (nat2 ((dps ps).take i))) [(Str.ofString ".0", none), (Str.ofString "k", none)] (lookL_none rfl) ?_ ?_ ?_ ?_
  · rintro c'' i m₁ vs l₁ _ p hp
    cases hp
  · intro c'' _ _ _
    exact ⟨none, rfl, rfl, .nil⟩
  · rintro c'' i v o acc vs m₁ l₁ hcw2 hA2 G'' hst hi ⟨t5, rfl⟩ ⟨o1, rfl, rfl, hvs⟩
    rw [show (0 : Int) + ((i : Nat) : Int) = ((i : Nat) : Int) by omega]
    refine T.asName ?_
    repeat' wtm_at "c"
    refine T.tests_nil ?_
    rw [if_pos rfl]
    repeat' wtm_at "c"
    refine T.global G'' (g_depth _) rfl rfl (by kernel_rfl) (by kernel_rfl) ?_
    refine T.cw G'' (by kernel_rfl) ?_
    repeat' wtm_at "c"
    refine depth_T G'' H hi (by wtm_at "mem") (fun i hi => ints_at hu hi) (by omega) fun t6 => ?_
    have hd : (dps ps)[i]? = some (dep ps i) := by
      unfold dps
      rw [List.getElem?_map, List.getElem?_range hi]; rfl
    have hvl := ints_len hvs
    refine ⟨by rw [List.length_take] at hvl; unfold sizeLine; omega, _, .refl _, _, rfl, rfl, ?_⟩
    rw [take_snoc hd]
    exact ints_snoc hvs
  · rintro c'' acc m₁ vs l₁ ⟨_, _, rfl, hvs⟩
    have hdl : (dps ps).length = ps.length := by unfold dps; simp
    rw [← hdl, List.take_length] at hvs
    refine T.store_c (by kernel_rfl) (by kernel_rfl) (by with_unfolding_all rfl) (Up.tail (Up.tail Up.head)) ?_
    repeat' wtm_at "c"
    refine T.comp (cl := [(Str.ofString "parents", c'.L + 1), (Str.ofString "depths", c'.L + 2)]) (by kernel_rfl) (by kernel_rfl) (by kernel_rfl) ?_
    wtm_at "c"
    wtm_at "range"
    refine T.bltn G' (g_no_max _) b_max (by decide) rfl rfl rfl (by kernel_rfl) (by kernel_rfl) ?_
    refine T.cwb ?_
    repeat' wtm_at "c"
    refine T.max G'.hdl (by wtm_at "mem") hvs (by simp; omega) fun M t7 hM1 hM2 => ?_
    obtain ⟨D, hD, rfl⟩ := List.mem_map.mp hM1
    have hDm : ∀ a ∈ dps ps, a ≤ D := fun a ha => by
      have := hM2 _ (List.mem_map_of_mem (f := fun (p : Nat) => (p : Int)) ha)
      omega
    have hD9 : D < 10 := by
      obtain ⟨k, hk, rfl⟩ := List.mem_map.mp hD
      have := dep_le ps k
      rw [List.mem_range] at hk
      omega
    repeat' wtm_at "c"
    refine T.range1 fun r2 t8 t9 => ?_
    refine T.itA_range G'.hdl (.head _) (by omega) (by omega) (by omega) (by omega) fun I2 oI2 S2 W2 hS2 => ?_
    rw [show ((D : Int) + 1 - 0).toNat = D + 1 by omega] at W2
    rename_i tq
    have m1 : (c'.L + 1, cellO (some (.ref l))) ∈ (r2, rngO 0 (↑D + 1) t8 tq t9) :: (acc, lst vs vs.length) :: (r, rngO 0 (↑ps.length) t3 t1 t4) :: (c'.L + 1 + 1, cellO (some (Value.ref acc))) :: (c'.L + 1, cellO (some (Value.ref l))) :: led := by wtm_at "mem"
    have m2 : (c'.L + 1 + 1, cellO (some (.ref acc))) ∈ (r2, rngO 0 (↑D + 1) t8 tq t9) :: (acc, lst vs vs.length) :: (r, rngO 0 (↑ps.length) t3 t1 t4) :: (c'.L + 1 + 1, cellO (some (Value.ref acc))) :: (c'.L + 1, cellO (some (Value.ref l))) :: led := by wtm_at "mem"
    have m3 : (acc, lst vs vs.length) ∈ (r2, rngO 0 (↑D + 1) t8 tq t9) :: (acc, lst vs vs.length) :: (r, rngO 0 (↑ps.length) t3 t1 t4) :: (c'.L + 1 + 1, cellO (some (Value.ref acc))) :: (c'.L + 1, cellO (some (Value.ref l))) :: led := by wtm_at "mem"
    have m4 : (l, lst us e) ∈ (r2, rngO 0 (↑D + 1) t8 tq t9) :: (acc, lst vs vs.length) :: (r, rngO 0 (↑ps.length) t3 t1 t4) :: (c'.L + 1 + 1, cellO (some (Value.ref acc))) :: (c'.L + 1, cellO (some (Value.ref l))) :: led := by wtm_at "mem"
    have m5 : Sub led ((r2, rngO 0 (↑D + 1) t8 tq t9) :: (acc, lst vs vs.length) :: (r, rngO 0 (↑ps.length) t3 t1 t4) :: (c'.L + 1 + 1, cellO (some (Value.ref acc))) :: (c'.L + 1, cellO (some (Value.ref l))) :: led) := by wtm_at "sub"
    generalize (r2, rngO 0 (↑D + 1) t8 tq t9) :: (acc, lst vs vs.length) :: (r, rngO 0 (↑ps.length) t3 t1 t4) :: (c'.L + 1 + 1, cellO (some (Value.ref acc))) :: (c'.L + 1, cellO (some (Value.ref l))) :: led = l0 at m1 m2 m3 m4 m5 ⊢
    refine TK.loop W2 hS2 G' 1 (fun _ => rfl) (fun c'' i m₁ ws l₁ => ∃ o g, m₁ = [(Str.ofString ".0", none)] ∧ l₁ = (c''.L + 1, cellO o) :: (g ++ l0) ∧ ListsAre g ws ((List.range i).map (roundAt ps))) [(Str.ofString ".0", none)] (lookL_none rfl) ?_ ?_ ?_ ?_
    · rintro c'' i m₁ vs l₁ _ p hp
      cases hp
    · intro c'' _ _ _
      exact ⟨none, [], rfl, rfl, .nil⟩
    · rintro c3 d v o acc2 ws m₁ l₁ hcw2 hA2 G3 hst hi ⟨t5, rfl⟩ ⟨oc, g, rfl, rfl, hws⟩
      rw [show (0 : Int) + ((d : Nat) : Int) = ((d : Nat) : Int) by omega]
      refine T.asName ?_
      refine T.store_c (by kernel_rfl) (by kernel_rfl) (by with_unfolding_all rfl) (Up.tail (Up.tail Up.head)) ?_
      refine T.tests_nil ?_
      rw [if_pos rfl]
      refine T.comp (cl := [(Str.ofString "depths", c'.L + 2), (Str.ofString "d", c3.L + 1)]) (by kernel_rfl) (by kernel_rfl) (by kernel_rfl) ?_
      wtm_at "c"
      wtm_at "range"
      wtm_at "len"
      refine T.len (l := l) (by wtm_at "mem") (by omega) fun t10 => ?_
      repeat' wtm_at "c"
      refine T.range1 fun r3 t11 t12 => ?_
      rw [hul]
      refine T.itA_range G3.hdl (.head _) (by omega) (by omega) (by omega) (by omega) fun I3 oI3 S3 W3 hS3 => ?_
      rw [show (((ps.length : Nat) : Int) - 0).toNat = ps.length by omega] at W3
      refine TK.loop W3 hS3 G3 0 (fun _ => rfl) (fun c4 i m₁ xs l₁ => ∃ o1, m₁ = [(Str.ofString ".0", none), (Str.ofString "k", o1)] ∧ l₁ = (r3, rngO 0 (ps.length : Nat) t11 t10 t12) :: (I2, o) :: (acc2, lst ws ws.length) :: (c3.L + 1, cellO (some (.int (d : Nat) t5))) :: (g ++ l0) ∧ IntsAre xs (nat2 ((List.range i).filter fun k => dep ps k == d))) [(Str.ofString ".0", none), (Str.ofString "k", none)] (lookL_none rfl) ?_ ?_ ?_ ?_
      · rintro c'' i m₁ vs l₁ _ p hp
        cases hp
      · intro c'' _ _ _
        exact ⟨none, rfl, rfl, .nil⟩
      · rintro c4 i v o acc3 xs m₁ l₁ hcw4 hA4 G4 hst4 hi4 ⟨t13, rfl⟩ ⟨o1, rfl, rfl, hxs⟩
        rw [show (0 : Int) + ((i : Nat) : Int) = ((i : Nat) : Int) by omega]
        refine T.asName ?_
        repeat' wtm_at "c"
        refine T.tests_one ?_
        repeat' wtm_at "c"
        have hi5 : i < (dps ps).length := by omega
        obtain ⟨t14, hat⟩ := ints_at hvs hi5
        have hgd : (dps ps).getD i 0 = dep ps i := by
          rw [List.getD_eq_getElem?_getD]
          unfold dps
          rw [List.getElem?_map, List.getElem?_range hi4]; rfl
        rw [hgd] at hat
        refine T.itemN (by wtm_at "mem") (by omega) hat rfl ?_
        repeat' wtm_at "c"
        rw [show (((dep ps i : Nat) : Int) == ((d : Nat) : Int)) = (dep ps i == d) by rw [Bool.eq_iff_iff, beq_iff_eq, beq_iff_eq]; omega]
        rw [List.range_succ, List.filter_append]
        have hxl := ints_len hxs
        have hxl2 : ((List.range i).filter fun k => dep ps k == d).length ≤ i := Nat.le_trans (List.length_filter_le ..) (by simp)
        cases hb : (dep ps i == d) with
        | true =>
          rw [if_pos rfl]
          repeat' wtm_at "c"
          refine ⟨by unfold sizeLine; omega, _, .refl _, _, rfl, rfl, ?_⟩
          rw [show List.filter (fun k => dep ps k == d) [i] = [i] by simp [hb]]
          exact ints_snoc hxs
        | false =>
          rw [if_neg Bool.false_ne_true]
          refine ⟨_, .refl _, _, rfl, rfl, ?_⟩
          rw [show List.filter (fun k => dep ps k == d) [i] = [] by simp [hb], List.append_nil]
          exact hxs
      · rintro c4 acc3 m₁ xs l₁ ⟨_, _, rfl, hxs⟩
        refine ⟨by rw [hws.1]; simp; unfold sizeLine; omega, (c3.L + 1, cellO (some (.int (d : Nat) t5))) :: (((acc3, lst xs xs.length) :: (r3, rngO 0 (ps.length : Nat) t11 t10 t12) :: g) ++ l0), ?_, _, _, rfl, rfl, ?_⟩
        · show List.Perm _ _
          wtm_at "perm"
        · rw [List.range_succ, List.map_append]
          exact ListsAre.snoc (hws.mono fun p hp => .tail _ (.tail _ hp)) (.head _) hxs
    · rintro c3 acc2 m₁ ws l₁ ⟨oc, g, _, rfl, hws⟩
      repeat wtm_at "un"
      refine ⟨_, ?_, h D acc2 ws g hD hDm hws⟩
      exact Sub.keep (.cons (Sub.left m5))
end
-- TP
section
variable {c : Cx} {m : Loc} {led : Led} {X : Value → Loc → Led → Prop} {Q : Value → Loc → Led → Prop} {env : Env}
/-- a call as a code: under whatever stands between -/
structure TD (c : Cx) (m : Loc) (led : Led) (f : Value) (args : List Value) (Q : Value → Loc → Led → Prop) : Prop where
  run : ∀ h tk A', A'.depth ≤ c.A.depth + 1 → A'.units ≤ c.A.units + 10 → A'.handled = none → A'.frames = c.A.frames → Rep c m led h → codeAny c.M A' (.call f ⟨args, []⟩) (fun r s' => match r with | .ok (.ret v) => Post c Q v s' | _ => False) (c.s h tk)
theorem Gd.in2 {n : Nat} {hp : Heap} {A : Around} (G : Gd c (n + 2)) (R : Rep c m led hp) (hd : A.depth ≤ c.A.depth + 2) (hu : A.units ≤ c.A.units + 40) (hh : A.handled = none) (hf : InFr c A hp) : Gd (c.in hp led A) n := by
  have k := stays R
  obtain ⟨mg, g⟩ := G.g
  obtain ⟨mb, b, bb⟩ := G.b
  have d1 := G.depth
  have u1 := G.units
  refine ⟨Frag.In.keeps G.K k, G.lim.keeps k, ⟨mg, g.keeps k⟩, ⟨mb, b.keeps k, bb⟩, ?_, ?_, hh, G.bm.keeps k, G.frs.in hf⟩
  · show A.depth + n < _; omega
  · show A.units + 20 * n < _; omega
theorem TD.def {n : Nat} {name qual : Str} {params : Arguments} {body : List Stmt} {scope : Scope} {dV kV doc pm cdv ct oc : Value} {an od : Option Addr} {osl : Array (Option Value)} {f : Addr} {args : List Value} (m' : Loc)
    (G : Gd c (n + 2)) (ho : c.K.lookup f = some ⟨oc, od, .func (fnOf name qual params body scope dV kV doc pm an cdv ct), osl⟩) (hcd : codeIn c.K cdv qual = true)
    (hbind : bindArgs (fnOf name qual params body scope dV kV doc pm an cdv ct) ⟨args, []⟩ = Pure.pure (bindsOf m'))
    (hok : (okM m' && ((bindsOf m').all fun x => decide (scope.names.lookup x.1 = some .local)) && !scope.isCoroutine && !scope.isGenerator && (scope.names.all fun x => x.2 != .cell)) = true) (hk : scope.kind = .function)
    (h : ∀ c' : Cx, c'.w = c.w → Gd c' n → T c' m' led (execs body (envOf qual scope c'.L f cdv)) (fun fl _ l' => ∃ l'', Sub l'' l' ∧ Q (match fl with | .ret v => v | _ => .none) m l'') NoX) :
    TD c m led (.ref f) args Q := .mk fun hp tk A' hdp hun hhd hfr R => by
  simp only [Bool.and_eq_true, Bool.not_eq_true'] at hok
  obtain ⟨⟨⟨⟨h1, hloc⟩, hco⟩, hgen⟩, hcell⟩ := hok
  have hm : ∀ y, lookL y m' = (bindsOf m').reverse.lookup y := fun y => by rw [lookup_reverse_nodup _ _ (bindsOf_nodup m' h1), lookup_filter y m' h1]
  have kp : ∀ b o, c.h0.get? b = some o → hp.get? b = some o := R.fr.keep
  have hX : c.K.In hp := Frag.In.keeps G.K kp
  have d1 := G.depth
  refine codeAny_call_def (fd := fnOf name qual params body scope dV kV doc pm an cdv ct) (body := body) (binds := bindsOf m') (by omega) (hX _ _ ho) rfl (G.lim.keeps kp) (codeRec_of hX hcd) rfl (BindsTo.of_eq hbind)
    (fun x hx => by have := List.all_eq_true.mp hcell x hx; simpa using this) (locs hloc) (fun h₁ hns hk₁ => ?_) hco hgen hk
  have e1 : callEnv (fnOf name qual params body scope dV kV doc pm an cdv ct) hp.objs.size f = envOf qual scope hp.objs.size f cdv := rfl
  rw [e1]
  have hh := h (c.in hp led (A'.deeper (envOf qual scope hp.objs.size f cdv))) rfl (G.in2 R (by show A'.depth + 1 ≤ _; omega) (by show A'.units + 3 ≤ _; omega) hhd (.inr ⟨envOf qual scope hp.objs.size f cdv, (by show A'.frames.map _ = _; rw [hfr]), (by show scope.kind ≠ _; rw [hk]; intro q; cases q), rfl⟩))
  have R₁ : Rep (c.in hp led (A'.deeper (envOf qual scope hp.objs.size f cdv))) m' led h₁ := by
    refine R.enter ?_ hk₁
    have : (fun y => lookL y m') = fun y => (bindsOf m').reverse.lookup y := funext hm
    rw [this]; exact hns
  refine wpAny_mono (hh.run h₁ (tk + (bindsOf m').length) R₁) (fun fl s' ⟨m₂, l₂, h', tk', e, R', l3, hs, q⟩ => ?_) fun _ _ ⟨_, _, _, _, _, _, x⟩ => x.elim
  subst e
  exact ⟨_, _, h', tk', rfl, (R.back R').sub hs, q⟩
/-- a class of the text called -/
theorem T.new {n : Nat} {C fI : Addr} {pos : List Value} (G : Gd c n) (hm : makesIn c.K C = true) (hi : findIn c.K (.ref C) "__init__" = some (some (.ref fI))) (hf : isFn c.K (.ref fI) = true)
    (h : ∀ x dx, TD c m ((x, instObj C dx) :: (dx, dictOf [] 0) :: led) (.ref fI) (.ref x :: pos) (fun v m' l' => v = .none ∧ Q (.ref x) m' l')) : T c m led (call (.ref C) pos) Q X := .mk fun hp tk R => by
  refine call_cls (s := c.s hp tk) (full_fr R) (Frag.In.keeps G.K (full_sub R)) (full_news R) hm hi hf fun x dx h' F' N' hlt hdx => ?_
  have nd : (((x, instObj C dx) :: (dx, dictOf [] 0) :: led).map (·.1)).Nodup := by
    rw [List.map_cons, List.map_cons, List.nodup_cons, List.nodup_cons]
    refine ⟨fun hx => ?_, fun hx => ?_, R.nd⟩
    · rcases List.mem_cons.mp hx with e | hx
      · exact absurd hdx (by rw [show x = dx from e]; exact Nat.lt_irrefl _)
      · obtain ⟨p, hp, e⟩ := List.mem_map.mp hx
        have := hlt p hp
        rw [e] at this
        exact absurd this (Nat.lt_asymm hdx)
    · obtain ⟨p, hp, e⟩ := List.mem_map.mp hx
      have := hlt p hp
      rw [e] at this
      exact Nat.lt_irrefl _ this
  have hcu : (Code.builtin "type.__call__" ⟨.ref C :: pos, []⟩).cUnits = 1 := by kernel_rfl
  have q := (h x dx).run h' tk (c.A.under (.builtin "type.__call__" ⟨.ref C :: pos, []⟩)) (Nat.le_refl _) (by show c.A.units + (Code.builtin "type.__call__" ⟨.ref C :: pos, []⟩).cUnits ≤ _; rw [hcu]; omega) G.hdl rfl (R.of_full F' N' nd)
  refine codeAny_mono q fun r s' z => ?_
  rcases r with e | (v | _ | _ | _)
  all_goals first | exact z.elim | skip
  obtain ⟨m', l', h'', tk', e, R', hv, q'⟩ := z
  subst e
  exact ⟨hv, ⟨_, _, _, _, rfl, R', q'⟩⟩
theorem T.attr {value : Expr} {attr : Str} {pos : Pos} (he : eval (.Attribute value attr pos) env = (do
      let o ← eval value env
      standAt pos.atName
      let r ← holding [o] (getAttr o attr true)
      letTemporaryGo value o r
      Pure.pure r)) (h : T c m led (eval value env) (fun o m₁ l₁ => T c m₁ l₁ (getAttr o attr true) Q X) X) : T c m led (eval (.Attribute value attr pos) env) Q X := .mk fun hp tk R =>
  Attribute_any_ (then_wp (h.run hp tk R) fun _ _ _ _ _ R₁ q₁ => q₁.run _ _ R₁) he
theorem Rep.inst {hp : Heap} {x C dx : Addr} {od : Obj} {sl : Array (Option Value)} (R : Rep c m led hp) (h1 : (x, (⟨.ref C, some dx, .plain, sl⟩ : Obj)) ∈ led) (h2 : (dx, od) ∈ led) : InstAt hp x ⟨.ref C, some dx, .plain, sl⟩ C (some od) := InstAt.of_news R.news h1 h2
theorem T.getA {n : Nat} {x C dx : Addr} {od : Obj} {sl : Array (Option Value)} {name : Str} {v : Value} {ex : Bool} (G : Gd c n) (h1 : (x, (⟨.ref C, some dx, .plain, sl⟩ : Obj)) ∈ led) (h2 : (dx, od) ∈ led) (hga : findIn c.K (.ref C) "__getattribute__" = some (some (.builtin "object.__getattribute__")))
    (hf : findObj c.K C (some od) name = some (.value v)) (hh : handedIn v = true) (h : Q v m led) : T c m led (getAttr (.ref x) name ex) Q X := .mk fun hp tk R =>
  get_value (s := c.s hp tk) (Frag.In.keeps G.K R.fr.keep) (R.inst h1 h2) hga hf hh (post_ok (tk := tk + 1) R h)
theorem T.getS {n : Nat} {x C dx p : Addr} {i : Nat} {od : Obj} {sl : Array (Option Value)} {name : Str} {v : Value} {ex : Bool} (G : Gd c n) (h1 : (x, (⟨.ref C, some dx, .plain, sl⟩ : Obj)) ∈ led) (h2 : (dx, od) ∈ led) (hg : plainGet c.K C name = true) (hc : isClsIn c.K C = true)
    (ha : findIn c.K (.ref C) name = some (some (.ref p))) (hn : specialIn c.K (.ref p) "__get__" = some (some (.builtin "member_descriptor.__get__"))) (ht : takesIn c.K (.ref p) = some true) (hp : slotIn c.K p C = some i)
    (hv : (sl[i]?).join = some v) (hh : handedIn v = true) (h : Q v m led) : T c m led (getAttr (.ref x) name ex) Q X := .mk fun hp' tk R =>
  get_slot (s := c.s hp' tk) R.fr G.K (R.inst h1 h2) hg hc ha hn ht hp hv hh (post_ok (tk := tk + 1) R h)
theorem Up.upd {a : Addr} {o o' : Obj} {l l' : Led} (u : Up a o o' l l') (nd : (l.map (·.1)).Nodup) : Upd a o o' l l' := by
  induction u with
  | @head r =>
    simp only [List.map_cons, List.nodup_cons] at nd
    exact .head fun p hp e => nd.1 (by rw [← e]; exact List.mem_map_of_mem (f := (·.1)) hp)
  | @tail p r r' u ih =>
    simp only [List.map_cons, List.nodup_cons] at nd
    exact .tail (fun e => nd.1 (by rw [e]; exact List.mem_map_of_mem (f := (·.1)) u.mem)) (ih nd.2)
theorem T.setA {n : Nat} {x C dx : Addr} {sl : Array (Option Value)} {name : Str} {v : Value} {es : List DictEntry} {k : Nat} {led' : Tok → Led} {Q : Unit → Loc → Led → Prop} (es' : Int → Tok → List DictEntry) (k' : Nat) (G : Gd c n) (h1 : (x, (⟨.ref C, some dx, .plain, sl⟩ : Obj)) ∈ led)
    (hs : findIn c.K (.ref C) "__setattr__" = some (some (.builtin "object.__setattr__"))) (hp : plainOver c.K C = true) (ht : takerIn c.K C name = some none) (hh : hasDictIn c.K C = true) (hl : (getL name es).isSome = true)
    (e : ∀ hs tk, (putL name hs (.str name tk) v es, putN name es k) = (es' hs tk, k')) (hz : ∀ hs tk, (es' hs tk).length ≤ 1000) (U : ∀ tk, Up dx (dictOf es k) (dictOf (es' (PyData.keyHash c.w.params name) tk) k') led (led' tk)) (h : ∀ tk, Q () m (led' tk)) : T c m led (setAttr (.ref x) name v) Q X := .mk fun hp' tk R =>
  set_dict (s := c.s hp' tk) (full_fr R) (Frag.In.keeps G.K (full_sub R)) (full_news R) (R.inst h1 (U (tk + 1)).mem) rfl hs hp ht hh hl (e _ _) ((U (tk + 1)).upd R.nd) (hz _ _) fun h' F' N' => ⟨m, led' (tk + 1), h', _, rfl, R.of_full F' N' (by rw [(U (tk + 1)).keys]; exact R.nd), h _⟩
theorem T.setS {n : Nat} {x C dx p : Addr} {i : Nat} {od ox' : Obj} {sl : Array (Option Value)} {name : Str} {v : Value} {led' : Led} {Q : Unit → Loc → Led → Prop} (G : Gd c n) (h2 : (dx, od) ∈ led)
    (hs : findIn c.K (.ref C) "__setattr__" = some (some (.builtin "object.__setattr__"))) (hp : plainOver c.K C = true) (ht : takerIn c.K C name = some (some (.ref p))) (hT : typeIn c.K (.ref p) = some (.type "member_descriptor")) (hi : slotIn c.K p C = some i) (hz : i < 1000)
    (e : ({ cls := .ref C, dict := some dx, data := .plain, slots := (sl ++ Array.replicate (i + 1 - sl.size) none).setIfInBounds i (some v) } : Obj) = ox') (hf : ox'.isFreed = false) (U : Up x ⟨.ref C, some dx, .plain, sl⟩ ox' led led') (h : Q () m led') : T c m led (setAttr (.ref x) name v) Q X := .mk fun hp' tk R =>
  set_slot (s := c.s hp' tk) (full_fr R) (Frag.In.keeps G.K (full_sub R)) (full_news R) (R.inst U.mem h2) hs hp ht hT hi hz e hf (U.upd R.nd) fun h' F' N' => ⟨m, led', h', _, rfl, R.of_full F' N' (by rw [U.keys]; exact R.nd), h⟩
theorem T.assignA {o : Expr} {attr : Str} {pos' pos : Pos} {value : Expr} {Q : Flow → Loc → Led → Prop} (hs : swapsWith value (some (.Attribute o attr pos')) pos.line env = Pure.pure false)
    (h : T c m led (eval value env) (fun v m₁ l₁ => T c m₁ l₁ (eval o env) (fun ov m₂ l₂ => T c m₂ l₂ (setAttr ov attr v) (fun _ => Q .next) X) X) X) : T c m led (exec (.Assign [.Attribute o attr pos'] value pos) env) Q X := .mk fun hp tk R =>
  plainObj_wpAny_Assign_Attribute (then_wp (h.run hp tk R) fun _ _ _ _ _ R₁ q₁ => then_wp (q₁.run _ _ R₁) fun _ _ _ _ _ R₂ q₂ => then_wp (q₂.run _ _ R₂) fun _ _ _ _ _ R₃ q₃ => post_ok R₃ q₃) hs
theorem T.augA {o : Expr} {attr : Str} {tpos pos : Pos} {op : Operator} {value : Expr} {Q : Flow → Loc → Led → Prop}
    (h : T c m led (eval o env) (fun ov m₁ l₁ => T c m₁ l₁ (getAttr ov attr true) (fun old m₂ l₂ => T c m₂ l₂ (eval value env) (fun v m₃ l₃ => T c m₃ l₃ (inplaceOp op old v) (fun new m₄ l₄ => T c m₄ l₄ (setAttr ov attr new) (fun _ => Q .next) X) X) X) X) X) :
    T c m led (exec (.AugAssign (.Attribute o attr tpos) op value pos) env) Q X := .mk fun hp tk R =>
  wpAny_AugAssign_AttributeAny (then_wp (h.run hp tk R) fun _ _ _ _ _ R₁ q₁ => then_wp (q₁.run _ _ R₁) fun _ _ _ _ _ R₂ q₂ => then_wp (q₂.run _ _ R₂) fun _ _ _ _ _ R₃ q₃ => then_wp (q₃.run _ _ R₃) fun _ _ _ _ _ R₄ q₄ => then_wp (q₄.run _ _ R₄) fun _ _ _ _ _ R₅ q₅ => post_ok R₅ q₅)
theorem T.mth {n : Nat} {x C dx f : Addr} {es : List DictEntry} {k : Nat} {sl : Array (Option Value)} {name : Str} {pl : Sem Bool} {Q : Value × List Value → Loc → Led → Prop} (G : Gd c n) (h1 : (x, (⟨.ref C, some dx, .plain, sl⟩ : Obj)) ∈ led) (h2 : (dx, dictOf es k) ∈ led) (hg : plainGet c.K C name = true)
    (hf : findIn c.K (.ref C) name = some (some (.ref f))) (ht : isFn c.K (.ref f) = true) (hl : getL name es = some none) (h : Q (.ref f, [.ref x]) m led) : T c m led (getMethod (.ref x) name pl) Q X := .mk fun hp tk R =>
  method_inst (s := c.s hp tk) R.fr G.K (R.inst h1 h2) hg hf ht hl (post_ok R h)
end
section
variable {prog : Program} {w : World} {A : Around} {E : Value → Shared → Prop} {s : Shared} {K : Frag} {x C : Addr} {ox : Obj} {od : Obj} {name : Str} {pl : Sem Bool} {Q : Value × List Value → Shared → Prop}
theorem method_owned {f : Addr} {v : Value} (X : K.In s.heap) (I : InstAt s.heap x ox C (some od)) (hga : findIn K (.ref C) "__getattribute__" = some (some (.builtin "object.__getattribute__"))) (hk : findIn K (.ref C) "__getattr__" = some none)
    (hf : findIn K (.ref C) name = some (some (.ref f))) (ht : typeIn K (.ref f) = some (.type "function")) (hl : lookIn name od = some (some v)) (h : wpAny (model prog w) A (getAttr (.ref x) name) (fun v => Q (v, [])) E s) :
    wpAny (model prog w) A (getMethod (.ref x) name pl) Q E s := by
  have hcan := PySem.F.canon_object_ga
  have u : wpAny (model prog w) A (do return (← getAttr (.ref x) name, ([] : List Value))) Q E s := wpAny_bind (wpAny_mono h (fun _ _ z => wpAny_pure z) fun _ _ z => z)
  unfold getMethod specialOf
  refine wpAny_bind (wpAny_bind (I.type.here ((looks_findIn X hga).here ?_)))
  dsimp only
  rw [hcan, if_neg (by decide)]
  refine wpAny_bind (wpAny_bind (I.type.here ((looks_findIn X hk).here ?_)))
  refine wpAny_bind (wpAny_bind (I.type.here ((looks_findIn X hf).here (wpAny_bind ((looks_typeIn X ht).here ?_)))))
  rw [if_neg (by decide +kernel)]
  refine wpAny_bind (wpAny_loadPart I.at_ ?_)
  have hd := I.dict
  cases e : ox.dict with
  | none => rw [e] at hd; exact hd.elim
  | some dx =>
    rw [e] at hd
    refine wpAny_bind (wpAny_bind (wpAny_loadPart hd ?_))
    rw [nsLook_of hl]
    refine wpAny_pure ?_
    exact u
end
section
variable {c : Cx} {m : Loc} {led : Led} {X : Value → Loc → Led → Prop} {env : Env}
theorem T.mown {n : Nat} {x C dx f : Addr} {od : Obj} {sl : Array (Option Value)} {name : Str} {pl : Sem Bool} {v : Value} {Q : Value × List Value → Loc → Led → Prop} (G : Gd c n) (h1 : (x, (⟨.ref C, some dx, .plain, sl⟩ : Obj)) ∈ led) (h2 : (dx, od) ∈ led) (hg : plainGet c.K C name = true)
    (hf : findIn c.K (.ref C) name = some (some (.ref f))) (ht : isFn c.K (.ref f) = true) (hl : lookIn name od = some (some v)) (hfo : findObj c.K C (some od) name = some (.value v)) (hh : handedIn v = true) (h : Q (v, []) m led) : T c m led (getMethod (.ref x) name pl) Q X := .mk fun hp tk R =>
  method_owned (s := c.s hp tk) (Frag.In.keeps G.K R.fr.keep) (R.inst h1 h2) (plainGet_of hg).1 (plainGet_of hg).2 hf (beq_iff_eq.mp ht) hl (get_value (s := c.s hp tk) (Frag.In.keeps G.K R.fr.keep) (R.inst h1 h2) (plainGet_of hg).1 hfo hh (post_ok (tk := tk + 1) R h))
end
-- F9
abbrev ent1 (k : Int × Tok) (n : Str) (v : Value) : DictEntry := ⟨k.1, .str n k.2, v⟩
abbrev entO (k : Nat → Int × Tok) (a r d q : Value) : Obj := dictOf [ent1 (k 0) "useragents" a, ent1 (k 1) "rulelines" r, ent1 (k 2) "delay" d, ent1 (k 3) "req_rate" q] 4
abbrev ruleO (k : Nat → Int × Tok) (a r f v : Value) : Obj := dictOf [ent1 (k 0) "useragents" a, ent1 (k 1) "rulelines" r, ent1 (k 2) "delay" .none, ent1 (k 3) "req_rate" .none, ent1 (k 4) "applies_to" f, ent1 (k 5) "allowance" v] 6
theorem ent_set (w : World) : findIn (kk.heap_1 w.params) (.ref 59) "__setattr__" = some (some (.builtin "object.__setattr__")) := by kernel_rfl
theorem ent_ga (w : World) : findIn (kk.heap_1 w.params) (.ref 59) "__getattribute__" = some (some (.builtin "object.__getattribute__")) := by kernel_rfl
theorem ent_over (w : World) : plainOver (kk.heap_1 w.params) 59 = true := by kernel_rfl
theorem ent_dict (w : World) : hasDictIn (kk.heap_1 w.params) 59 = true := by kernel_rfl
theorem ent_makes (w : World) : makesIn (kk.heap_1 w.params) 59 = true := by kernel_rfl
theorem ent_init (w : World) : findIn (kk.heap_1 w.params) (.ref 59) "__init__" = some (some (.ref 35)) := by kernel_rfl
theorem g_Entry (w : World) : nsIn (kk.heap_1 w.params) mainGlobals (Str.ofString "Entry") = some (some (.ref 59)) := by kernel_rfl
section
variable {c : Cx} {m : Loc} {led : Led} {X : Value → Loc → Led → Prop} {Q : Value → Loc → Led → Prop} {env : Env}
theorem entry_T {n : Nat} (G : Gd c (n + 2)) (h : ∀ x dx k ul rl, Q (.ref x) m ((x, instObj 59 dx) :: (dx, entO k (.ref ul) (.ref rl) .none .none) :: (ul, lst [] 0) :: (rl, lst [] 0) :: led)) : T c m led (call (.ref 59) []) Q X := by
  refine T.new G (ent_makes _) (ent_init _) (by kernel_rfl) fun x dx => ?_
  refine TD.def [(Str.ofString "self", some (.ref x))] G rfl (by kernel_rfl) (by kernel_rfl) (by kernel_rfl) rfl ?_
  intro c' hw G'
  wtm_at "c"
  refine T.assignA (by kernel_rfl) ?_
  refine T.list (by kernel_rfl) ?_
  refine T.snil ⟨by decide, fun ul => ?_⟩
  repeat' wtm_at "c"
  refine T.setA (fun hs tk => [ent1 (hs, tk) "useragents" (.ref ul)]) 1 G' (by wtm_at "mem") (ent_set _) (ent_over _) (by kernel_rfl) (ent_dict _) (by kernel_rfl) (fun _ _ => by kernel_rfl) (fun _ _ => by show 1 ≤ 1000; decide) (fun tk => by wtm_at "up") fun t1 => ?_
  repeat' wtm_at "c"
  refine T.assignA (by kernel_rfl) ?_
  refine T.list (by kernel_rfl) ?_
  refine T.snil ⟨by decide, fun rl => ?_⟩
  repeat' wtm_at "c"
  refine T.setA (fun hs tk => [ent1 (PyData.keyHash c'.w.params "useragents", t1) "useragents" (.ref ul), ent1 (hs, tk) "rulelines" (.ref rl)]) 2 G' (by wtm_at "mem") (ent_set _) (ent_over _) (by kernel_rfl) (ent_dict _) (by kernel_rfl) (fun _ _ => by kernel_rfl) (fun _ _ => by show 2 ≤ 1000; decide) (fun tk => by wtm_at "up") fun t2 => ?_
  generalize PyData.keyHash c'.w.params (Str.ofString "useragents") = k1
  generalize PyData.keyHash c'.w.params (Str.ofString "rulelines") = k2
  repeat' wtm_at "c"
  refine T.assignA (by kernel_rfl) ?_
  repeat' wtm_at "c"
  refine T.setA (fun hs tk => [ent1 (k1, t1) "useragents" (.ref ul), ent1 (k2, t2) "rulelines" (.ref rl), ent1 (hs, tk) "delay" .none]) 3 G' (by wtm_at "mem") (ent_set _) (ent_over _) (by kernel_rfl) (ent_dict _) (by kernel_rfl) (fun _ _ => by kernel_rfl) (fun _ _ => by show 3 ≤ 1000; decide) (fun tk => by wtm_at "up") fun t3 => ?_
  generalize PyData.keyHash c'.w.params (Str.ofString "delay") = k3
  repeat' wtm_at "c"
  refine T.assignA (by kernel_rfl) ?_
  repeat' wtm_at "c"
  refine T.setA (fun hs tk => [ent1 (k1, t1) "useragents" (.ref ul), ent1 (k2, t2) "rulelines" (.ref rl), ent1 (k3, t3) "delay" .none, ent1 (hs, tk) "req_rate" .none]) 4 G' (by wtm_at "mem") (ent_set _) (ent_over _) (by kernel_rfl) (ent_dict _) (by kernel_rfl) (fun _ _ => by kernel_rfl) (fun _ _ => by show 4 ≤ 1000; decide) (fun tk => by wtm_at "up") fun t4 => ?_
  generalize PyData.keyHash c'.w.params (Str.ofString "req_rate") = k4
  repeat' wtm_at "c"
  refine ⟨_, ?_, rfl, h x dx (fun i => [(k1, t1), (k2, t2), (k3, t3), (k4, t4)].getD i (0, 0)) ul rl⟩
  show Sub ((x, instObj 59 dx) :: (dx, dictOf [ent1 (k1, t1) "useragents" (.ref ul), ent1 (k2, t2) "rulelines" (.ref rl), ent1 (k3, t3) "delay" .none, ent1 (k4, t4) "req_rate" .none] 4) :: (ul, lst [] 0) :: (rl, lst [] 0) :: led) _
  wtm_at "sub"
theorem record_T {n : Nat} (G : Gd c (n + 3)) {a l d : Value} (h : ∀ x dx k, Q (.ref x) m ((x, instObj 59 dx) :: (dx, entO k a l d .none) :: led)) : T c m led (call (.ref 279) [a, l, d]) Q X := by
  refine T.def [(Str.ofString "agents", some a), (Str.ofString "lines", some l), (Str.ofString "delay", some d), (Str.ofString "record", none)] G rfl (by kernel_rfl) (by kernel_rfl) (by kernel_rfl) rfl ?_
  intro c' hw G'
  repeat' wtm_at "c"
  refine T.global G' (g_Entry _) rfl rfl (by kernel_rfl) (by kernel_rfl) ?_
  refine T.cw G' (by kernel_rfl) ?_
  repeat' wtm_at "c"
  refine entry_T G' fun x dx k ul rl => ?_
  repeat' wtm_at "c"
  refine T.assignA (by kernel_rfl) ?_
  repeat' wtm_at "c"
  refine T.setA (fun hs tk => [ent1 (k 0) "useragents" a, ent1 (k 1) "rulelines" (.ref rl), ent1 (k 2) "delay" .none, ent1 (k 3) "req_rate" .none]) 4 G' (by wtm_at "mem") (ent_set _) (ent_over _) (by kernel_rfl) (ent_dict _) (by kernel_rfl) (fun _ _ => by kernel_rfl) (fun _ _ => by show 4 ≤ 1000; decide) (fun tk => by wtm_at "up") fun _ => ?_
  repeat' wtm_at "c"
  refine T.assignA (by kernel_rfl) ?_
  repeat' wtm_at "c"
  refine T.setA (fun hs tk => [ent1 (k 0) "useragents" a, ent1 (k 1) "rulelines" l, ent1 (k 2) "delay" .none, ent1 (k 3) "req_rate" .none]) 4 G' (by wtm_at "mem") (ent_set _) (ent_over _) (by kernel_rfl) (ent_dict _) (by kernel_rfl) (fun _ _ => by kernel_rfl) (fun _ _ => by show 4 ≤ 1000; decide) (fun tk => by wtm_at "up") fun _ => ?_
  repeat' wtm_at "c"
  refine T.assignA (by kernel_rfl) ?_
  repeat' wtm_at "c"
  refine T.setA (fun hs tk => [ent1 (k 0) "useragents" a, ent1 (k 1) "rulelines" l, ent1 (k 2) "delay" d, ent1 (k 3) "req_rate" .none]) 4 G' (by wtm_at "mem") (ent_set _) (ent_over _) (by kernel_rfl) (ent_dict _) (by kernel_rfl) (fun _ _ => by kernel_rfl) (fun _ _ => by show 4 ≤ 1000; decide) (fun tk => by wtm_at "up") fun _ => ?_
  repeat' wtm_at "c"
  exact ⟨_, by wtm_at "sub", h x dx k⟩
end
-- TQ
def LamTab (pos : Pos) (qual : Str) (ps : Array Value) (l : Led) : Prop := ps = #[] ∨ ∃ c' oc vs t, ps = #[rawInt pos.line, rawInt pos.col, .ref c'] ∧ (c', oc) ∈ l ∧ oc.data = .fields vs ∧ vs[1]? = some (.str qual t)
theorem Up.app {a : Addr} {o o' : Obj} {g l l' : Led} (u : Up a o o' l l') : Up a o o' (g ++ l) (g ++ l') := by
  induction g with
  | nil => exact u
  | cons p r ih => exact .tail ih
section
variable {c : Cx} {m : Loc} {led : Led} {X : Value → Loc → Led → Prop} {Q : Value → Loc → Led → Prop} {env : Env}
theorem Rep.add {hp : Heap} {a : Addr} {o : Obj} (R : Rep c m led hp) (ha : hp.get? a = some o) (h1 : a ∉ led.map (·.1)) (h2 : a ≠ c.L) (h3 : c.h0.get? a = none) (h4 : a ∉ c.outs.map (·.1)) : Rep c m ((a, o) :: led) hp := by
  refine ⟨R.fr, fun p hp => ?_, ?_, fun p hp => ?_⟩
  rotate_right
  · obtain ⟨⟨sl, e⟩, a2, a3, a4, a5⟩ := R.outs p hp
    refine ⟨⟨sl, e⟩, a2, a3, fun q => ?_, a5⟩
    rcases List.mem_cons.mp q with q | q
    · exact h4 (by rw [← (show p.1 = a from q)]; exact List.mem_map_of_mem (f := (·.1)) hp)
    · exact a4 q
  · rcases List.mem_cons.mp hp with rfl | hp
    · exact ⟨ha, h2, h3⟩
    · exact R.news p hp
  · rw [List.map_cons, List.nodup_cons]; exact ⟨h1, R.nd⟩
theorem T.lam {n : Nat} {params : Arguments} {body : Expr} {scope : Scope} {pos : Pos} {clos : List (Str × Addr)} {ps : Array Value} {cc P : Addr} {base : Led} (hb : ∀ p ∈ base, p ∈ led) (G : Gd c n) (hdef : defaultsOf params env = ([], [])) (hg : env.globals = mainGlobals) (hcode : env.code = .ref cc) (hC : codeHdIn c.K cc P = true) (hcl : closureFor scope env = Pure.pure clos)
    (hT : LamTab pos (env.qual ++ "<lambda>") ps base)
    (h : ∀ f c' oc vs t ctv pm new, oc.data = .fields vs → vs[1]? = some (.str (env.qual ++ "<lambda>") t) → (c', oc) ∈ new ++ base → Q (.ref f) m ((f, kla_obj "<lambda>" (env.qual ++ "<lambda>") params body scope clos pm c' ctv) :: (P, tabObj #[rawInt pos.line, rawInt pos.col, .ref c']) :: (new ++ led))) :
    T c m ((P, tabObj ps) :: led) (eval (.Lambda params body scope pos) env) Q X := .mk fun hp tk R => by
  refine kla_eval hdef ?_
  obtain ⟨mg, bm, ob, g, b1, b2, b3, b4, b5, b6⟩ := G.bm
  have hP := R.news _ (.head _)
  have gs : hp.Ns mainGlobals mg := g.keeps R.fr.keep
  have hbP : bm ≠ P := fun q => by
    have := hP.2.2
    rw [← q, b3] at this; cases this
  have hgP : mainGlobals ≠ P := fun q => by
    obtain ⟨o, es, ep, e, _⟩ := g
    have := hP.2.2
    rw [← q, e] at this; cases this
  have hbG : bm ≠ mainGlobals := fun q => by
    obtain ⟨o, es, ep, e, hd, _⟩ := g
    rw [q, e] at b3; cases b3; rw [hd] at b6; cases b6
  have CH : CodeHd hp cc P := (codeHd_of_K G.K hC).keeps R.fr.keep
  have BA : hp.BuiltinsAt mg P := ⟨bm, ob, b1, b2, hbG, hbP, R.fr.keep _ _ b3, b4, b5, b6⟩
  rcases hT with rfl | ⟨c', oc, vs, t, rfl, hc', hd, hv⟩
  · refine kla_makeFunction (s := c.s hp tk) (mg := mg) hcl hg gs hcode CH hP.1 trivial rfl hgP BA fun c' ctv h' tk' hx hge hlt hrec htb => ?_
    obtain ⟨c₂, oc, vs, t, e2, hoc, hd, hv⟩ := hrec
    cases e2
    have R1 : Rep c m ((P, tabObj #[rawInt pos.line, rawInt pos.col, .ref c']) :: led) h' := R.head (by simpa using htb) fun b x hb e => hx b x hb e
    have hLs : c.L < hp.objs.size := R.fr.ns.lt
    have hge' : hp.objs.size ≤ c' := hge
    have R2 : Rep c m ((c', oc) :: (P, tabObj #[rawInt pos.line, rawInt pos.col, .ref c']) :: led) h' := by
      refine R1.add hoc (fun q => ?_) (Nat.ne_of_gt (Nat.lt_of_lt_of_le hLs hge')) (Heap.get?_none_of_le (Nat.le_trans R.fr.above (Nat.le_trans (Nat.le_of_lt hLs) hge'))) (fun q => ?_)
      rotate_right
      · obtain ⟨p, hp2, e⟩ := List.mem_map.mp q
        have := (R.outs p hp2).2.1
        rw [e] at this
        exact absurd (Nat.lt_of_lt_of_le hLs hge') (Nat.lt_asymm this)
      obtain ⟨p, hp', e⟩ := List.mem_map.mp q
      have hlt2 : p.1 < hp.objs.size := by
        rcases List.mem_cons.mp hp' with rfl | hp'
        · exact Heap.lt_size hP.1
        · exact Heap.lt_size (R.news p (.tail _ hp')).1
      rw [e] at hlt2
      exact absurd hge' (Nat.not_le_of_lt hlt2)
    have R3 := R2.push (kla_obj "<lambda>" (env.qual ++ "<lambda>") params body scope clos ((mg "__name__").getD .none) c' ctv) rfl
    refine ⟨m, _, _, _, rfl, R3.perm ?_, h h'.objs.size c' oc vs t ctv ((mg "__name__").getD .none) [(c', oc)] hd hv (.head _)⟩
    exact (List.Perm.swap _ _ _).cons _
  · refine kla_makeFunctionHit (s := c.s hp tk) (mg := mg) (cv := .ref c') hcl hg gs hcode CH hP.1 trivial (by simp [codeAmong, rawInt]) BA fun ctv h' tk' hk hsz => ?_
    have R1 := (R.all hk).push (kla_obj "<lambda>" (env.qual ++ "<lambda>") params body scope clos ((mg "__name__").getD .none) c' ctv) rfl
    exact ⟨m, _, _, _, rfl, R1, h h'.objs.size c' oc vs t ctv ((mg "__name__").getD .none) [] hd hv hc'⟩
theorem T.lcall {n : Nat} {name qual : Str} {params : Arguments} {body : Expr} {scope : Scope} {cl : List (Str × Addr)} {pm ctv : Value} {cd f : Addr} {oc : Obj} {vs : Array Value} {t : Tok} {args : List Value} (m' : Loc) (G : Gd c (n + 1)) (ho : (f, kla_obj name qual params body scope cl pm cd ctv) ∈ led) (hc : (cd, oc) ∈ led) (hd : oc.data = .fields vs) (hv : vs[1]? = some (.str qual t))
    (hbind : bindArgs (kla_fn name qual params body scope cl pm (.ref cd) ctv) ⟨args, []⟩ = Pure.pure (bindsOf m'))
    (hok : (okM m' && ((bindsOf m').all fun x => decide (scope.names.lookup x.1 = some .local)) && !scope.isCoroutine && !scope.isGenerator && (scope.names.all fun x => x.2 != .cell)) = true) (hk : scope.kind = .function)
    (h : ∀ c' : Cx, c'.w = c.w → Gd c' n → T c' m' led (eval body (envX qual scope c'.L f (.ref cd) cl)) (fun v _ l' => ∃ l'', Sub l'' l' ∧ Q v m l'') NoX) : T c m led (call (.ref f) args) Q X := .mk fun hp tk R => by
  simp only [Bool.and_eq_true, Bool.not_eq_true'] at hok
  obtain ⟨⟨⟨⟨h1, hloc⟩, hco⟩, hgen⟩, hcell⟩ := hok
  have hm : ∀ y, lookL y m' = (bindsOf m').reverse.lookup y := fun y => by rw [lookup_reverse_nodup _ _ (bindsOf_nodup m' h1), lookup_filter y m' h1]
  have kp : ∀ b o, c.h0.get? b = some o → hp.get? b = some o := R.fr.keep
  have d1 := G.depth
  refine wpAny_call (kla_callFunE (by omega) (R.get ho) rfl hco hgen rfl ⟨cd, oc, vs, t, rfl, R.get hc, hd, hv⟩ ?_)
  rw [hbind]
  refine wpAny_pure (wpAny_newFunctionEnv (fun x hx => by have := List.all_eq_true.mp hcell x hx; simpa using this) (locs hloc) (fun h₁ hns hsb => ⟨(G.lim.keeps kp).fresh _ hsb, ?_⟩) hk)
  show codeAny _ _ (.expr body (envX qual scope hp.objs.size f (.ref cd) cl)) _ _
  have hk₁ : ∀ b o, hp.get? b = some o → h₁.get? b = some o := fun b o e => hsb.extBut b o (Nat.ne_of_lt (Heap.lt_size e)) (Heap.get?_push_of_some _ e)
  have hh := h (c.in hp led (c.A.deeper (envX qual scope hp.objs.size f (.ref cd) cl))) rfl (G.in R (Nat.le_refl _) (by show c.A.units + 3 ≤ _; omega) G.hdl (.inr ⟨envX qual scope hp.objs.size f (.ref cd) cl, rfl, (by show scope.kind ≠ _; rw [hk]; intro q; cases q), rfl⟩))
  have R₁ : Rep (c.in hp led (c.A.deeper (envX qual scope hp.objs.size f (.ref cd) cl))) m' led h₁ := by
    refine R.enter ?_ hk₁
    have : (fun y => lookL y m') = fun y => (bindsOf m').reverse.lookup y := funext hm
    rw [this]; exact hns
  refine kla_codeExpr (wpAny_mono (hh.run h₁ _ R₁) (fun v s' ⟨m₂, l₂, h', tk', e, R', l3, hs, q⟩ => ?_) fun _ _ ⟨_, _, _, _, _, _, x⟩ => x.elim)
  subst e
  exact ⟨_, _, h', tk', rfl, (R.back R').sub hs, q⟩
/-- a call of a function that lies in the ledger -/
theorem T.cwf {fd : FuncData} {f : Addr} {o : Obj} {first : List Value} {pos : Pos} {es : List Expr} (ho : o.data = .func fd)
    (h : T c m led (spliced (plainArgs env es)) (fun vs m₁ l₁ => (f, o) ∈ l₁ ∧ T c m₁ l₁ (PySem.call (.ref f) (first ++ vs)) Q X) X) : T c m led (callWith pos (.ref f) first (plainArgs env es) []) Q X := .mk fun hp tk R =>
  callWith_of (P := fun h => h.get? f = some o) (by rw [plainArgs_any]; rfl) (fun h e => ⟨.frame, .inl rfl, (Looks.ld (part := none) e).andThen (by rw [ho]; exact .now)⟩) (evalArgs_p (then_wp (h.run hp tk R) fun _ _ _ _ _ R₁ q₁ => ⟨R₁.get q₁.1, q₁.2.run _ _ R₁⟩))
/-- the ledger's addresses are without doubles -/
theorem T.nd {α : Type} {t : Sem α} {Q : α → Loc → Led → Prop} (h : (led.map (·.1)).Nodup → T c m led t Q X) : T c m led t Q X := .mk fun hp tk R => (h R.nd).run hp tk R
end
-- F10
local macro_rules | `(tactic| wtm_at "mem2") => `(tactic| first | exact List.Mem.head _ | assumption | (refine List.Mem.tail _ ?_; wtm_at "mem2") | (refine List.mem_append_right _ ?_; wtm_at "mem2"))
local macro_rules | `(tactic| wtm_at "up2") => `(tactic| first | exact Up.head | (apply Up.tail; wtm_at "up2") | (apply Up.app; wtm_at "up2"))
inductive RuleOk (l : Led) (x : Addr) (p : Str) (v : Value) : Prop
  | mk (dx : Addr) (k : Nat → Int × Tok) (a r : Value) (f : Addr) (fo : Obj) (fd : FuncData) (h1 : (x, instObj 59 dx) ∈ l) (h2 : (dx, ruleO k a r (.ref f) v) ∈ l) (h3 : (f, fo) ∈ l) (h4 : fo.data = .func fd)
    (h5 : ∀ (c : Cx) (n : Nat) (m : Loc) (l' : Led) (s : Str) (t : Tok) (Q : Value → Loc → Led → Prop) (X : Value → Loc → Led → Prop), Gd c (n + 1) → (∀ q ∈ l, q ∈ l') → (∀ t', Q (.int ((if Txt.startswith s p = true then p.length + 1 else 0 : Nat) : Int) t') m l') → T c m l' (call (.ref f) [.str s t]) Q X)
theorem RuleOk.mono {l l' : Led} {x : Addr} {p : Str} {v : Value} (h : RuleOk l x p v) (hs : ∀ q ∈ l, q ∈ l') : RuleOk l' x p v :=
  let ⟨dx, k, a, r, f, fo, fd, h1, h2, h3, h4, h5⟩ := h
  ⟨dx, k, a, r, f, fo, fd, hs _ h1, hs _ h2, hs _ h3, h4, fun c n m l'' s t Q X G hl => h5 c n m l'' s t Q X G fun q hq => hl q (hs q hq)⟩
section
variable {c : Cx} {m : Loc} {led : Led} {X : Value → Loc → Led → Prop} {Q : Value → Loc → Led → Prop} {env : Env}
theorem T.gm_startswith {x : Str} {t : Tok} {pl : Sem Bool} {Q : Value × List Value → Loc → Led → Prop} (h : Q (.builtin "str.startswith", [.str x t]) m led) : T c m led (getMethod (.str x t) (Str.ofString "startswith") pl) Q X := .mk fun _ _ R => GM.startswith (post_ok R h)
theorem T.startswith {x y : Str} {t u : Tok} (h : Q (.bool (Txt.startswith x y)) m led) : T c m led (call (.builtin "str.startswith") [.str x t, .str y u]) Q X := .mk fun hp tk R => SC.startswith (post_ok R h)
theorem T.slen {x : Str} {t : Tok} (hx : x.length < 2 ^ 60) (h : ∀ t', Q (.int x.length t') m led) : T c m led (call (.builtin "len") [.str x t]) Q X := .mk fun hp tk R => P.len_str (by omega) (post_ok (tk := tk + 2) R (h _))
theorem LamTab.mono {pos : Pos} {q : Str} {ps : Array Value} {l l' : Led} (h : LamTab pos q ps l) (hs : ∀ p ∈ l, p ∈ l') : LamTab pos q ps l' := h.imp id fun ⟨a, b, d, e, h1, h2, h3⟩ => ⟨a, b, d, e, h1, hs _ h2, h3⟩
theorem sub_help {f tab : Addr × Obj} {new five l : Led} : Sub (tab :: ((f :: (new ++ five)) ++ l)) (f :: tab :: (new ++ (five ++ l))) := by
  refine ⟨_, ?_, .refl _⟩
  rw [List.cons_append, List.append_assoc]
  exact .swap _ _ _
abbrev lamPos : Pos := { line := 242, col := 22, endLine := 242, endCol := 80 }
abbrev lamQual : Str := (Str.ofString "_law_rule" ++ Str.ofString ".<locals>.") ++ Str.ofString "<lambda>"
theorem rule_T {n : Nat} (G : Gd c (n + 3)) {p : Str} {t : Tok} {v : Value} {ps : Array Value} {base : Led} (hb : ∀ q ∈ base, q ∈ led) (hp : p.length < 1000) (hT : LamTab lamPos lamQual ps base)
    (h : ∀ x ps' new, LamTab lamPos lamQual ps' (new ++ base) → RuleOk (new ++ base) x p v → Q (.ref x) m ((267, tabObj ps') :: (new ++ led))) : T c m ((267, tabObj ps) :: led) (call (.ref 272) [.str p t, v]) Q X := by
  refine T.defC (binds := [(Str.ofString "path", .str p t), (Str.ofString "verdict", v)]) 1 [(Str.ofString "path", none), (Str.ofString "verdict", none), (Str.ofString "rule", none)] G rfl (by kernel_rfl) (by kernel_rfl) (fun _ => rfl) (lookL_none rfl) rfl rfl rfl ?_
  intro c' A' hcw G'
  refine T.store_c (by kernel_rfl) (by kernel_rfl) (by with_unfolding_all rfl) Up.head ?_
  refine T.store (by kernel_rfl) (by with_unfolding_all rfl) (by kernel_rfl) ?_
  show T c' _ _ _ _ _
  repeat' wtm_at "c"
  refine T.global G' (g_Entry _) rfl rfl (by kernel_rfl) (by kernel_rfl) ?_
  refine T.cw G' (by kernel_rfl) ?_
  repeat' wtm_at "c"
  refine entry_T G' fun x dx k ul rl => ?_
  repeat' wtm_at "c"
  refine T.assignA (by kernel_rfl) ?_
  refine T.perm (led' := (267, tabObj ps) :: (x, instObj 59 dx) :: (dx, entO k (.ref ul) (.ref rl) .none .none) :: (ul, lst [] 0) :: (rl, lst [] 0) :: (c'.L + 1, cellO (some (.str p t))) :: led) (by wtm_at "perm") ?_
  refine T.lam (cc := 271) (base := base) (hb := fun q hq => .tail _ (.tail _ (.tail _ (.tail _ (.tail _ (hb q hq)))))) (clos := [(Str.ofString "path", c'.L + 1)]) G' (by kernel_rfl) rfl rfl (by kernel_rfl) (by kernel_rfl) hT fun f cd oc vs tq ctv pm new hd hv hmem => ?_
  repeat' wtm_at "c"
  refine T.setA (fun hs tk => [ent1 (k 0) "useragents" (.ref ul), ent1 (k 1) "rulelines" (.ref rl), ent1 (k 2) "delay" .none, ent1 (k 3) "req_rate" .none, ent1 (hs, tk) "applies_to" (.ref f)]) 5 G' (by wtm_at "mem2") (ent_set _) (ent_over _) (by kernel_rfl) (ent_dict _) (by kernel_rfl) (fun _ _ => by kernel_rfl) (fun _ _ => by show 5 ≤ 1000; decide) (fun tk => by wtm_at "up2") fun t5 => ?_
  generalize PyData.keyHash c'.w.params (Str.ofString "applies_to") = k5
  repeat' wtm_at "c"
  refine T.assignA (by kernel_rfl) ?_
  repeat' wtm_at "c"
  refine T.setA (fun hs tk => [ent1 (k 0) "useragents" (.ref ul), ent1 (k 1) "rulelines" (.ref rl), ent1 (k 2) "delay" .none, ent1 (k 3) "req_rate" .none, ent1 (k5, t5) "applies_to" (.ref f), ent1 (hs, tk) "allowance" v]) 6 G' (by wtm_at "mem2") (ent_set _) (ent_over _) (by kernel_rfl) (ent_dict _) (by kernel_rfl) (fun _ _ => by kernel_rfl) (fun _ _ => by show 6 ≤ 1000; decide) (fun tk => by wtm_at "up2") fun t6 => ?_
  generalize PyData.keyHash c'.w.params (Str.ofString "allowance") = k6
  repeat' wtm_at "c"
  refine ⟨_, sub_help (five := [(x, instObj 59 dx), (dx, dictOf [ent1 (k 0) "useragents" (.ref ul), ent1 (k 1) "rulelines" (.ref rl), ent1 (k 2) "delay" .none, ent1 (k 3) "req_rate" .none, ent1 (k5, t5) "applies_to" (.ref f), ent1 (k6, t6) "allowance" v] 6), (ul, lst [] 0), (rl, lst [] 0), (c'.L + 1, cellO (some (.str p t)))]), h x _ _ ?_ ?_⟩
  · refine .inr ⟨cd, oc, vs, tq, rfl, ?_, hd, hv⟩
    rw [List.cons_append, List.append_assoc]
    refine .tail _ ?_
    rcases List.mem_append.mp hmem with hm | hm
    · exact List.mem_append_left _ hm
    · exact List.mem_append_right _ (List.mem_append_right _ hm)
  · refine ⟨dx, (fun i => [k 0, k 1, k 2, k 3, (k5, t5), (k6, t6)].getD i (0, 0)), .ref ul, .ref rl, f, _, _, ?_, ?_, .head _, rfl, ?_⟩
    · rw [List.cons_append, List.append_assoc]
      exact .tail _ (List.mem_append_right _ (.head _))
    · rw [List.cons_append, List.append_assoc]
      exact .tail _ (List.mem_append_right _ (.tail _ (.head _)))
    · intro c2 n2 m2 l2 s t2 Q2 X2 G2 hl hq
      have hcm : (cd, oc) ∈ l2 := by
        refine hl _ ?_
        rw [List.cons_append, List.append_assoc]
        refine .tail _ ?_
        rcases List.mem_append.mp hmem with hm | hm
        · exact List.mem_append_left _ hm
        · exact List.mem_append_right _ (List.mem_append_right _ hm)
      have hcell : (c'.L + 1, cellO (some (.str p t))) ∈ l2 := by
        refine hl _ ?_
        rw [List.cons_append, List.append_assoc]
        exact .tail _ (List.mem_append_right _ (.tail _ (.tail _ (.tail _ (.tail _ (.head _))))))
      refine T.lcall [(Str.ofString "name", some (.str s t2))] G2 (hl _ (.head _)) hcm hd hv (by kernel_rfl) (by kernel_rfl) rfl ?_
      intro c3 hw3 G3
      refine T.ifexp ?_
      refine T.truth rfl ?_
      refine T.mcall (by kernel_rfl) (by kernel_rfl) ?_
      repeat' wtm_at "c"
      refine T.gm_startswith ?_
      refine T.cwb ?_
      repeat' wtm_at "c"
      refine T.startswith ?_
      refine T.truthy_bool ?_
      cases hb : Txt.startswith s p with
      | true =>
        rw [if_pos rfl]
        repeat' wtm_at "c"
        wtm_at "len"
        refine T.slen (by omega) fun t4 => ?_
        repeat' wtm_at "c"
        rename_i tz
        have := hq tz
        rw [hb, if_pos rfl] at this
        exact ⟨_, .refl _, this⟩
      | false =>
        rw [if_neg Bool.false_ne_true]
        repeat' wtm_at "c"
        rename_i tz
        have := hq tz
        rw [hb, if_neg Bool.false_ne_true] at this
        exact ⟨_, .refl _, this⟩
end
-- F11
def RulesAre (l : Led) (vs : List Value) (rs : List (Str × Str)) : Prop := vs.length = rs.length ∧ ∀ (i : Nat) (r : Str × Str), rs[i]? = some r → ∃ x t, vs[i]? = some (Value.ref x) ∧ RuleOk l x r.1 (.str r.2 t)
theorem RulesAre.mono {l l' : Led} {vs : List Value} {rs : List (Str × Str)} (h : RulesAre l vs rs) (hs : ∀ q ∈ l, q ∈ l') : RulesAre l' vs rs := ⟨h.1, fun i r hr => let ⟨x, t, a, b⟩ := h.2 i r hr; ⟨x, t, a, b.mono hs⟩⟩
theorem RulesAre.nil {l : Led} : RulesAre l [] [] := ⟨rfl, fun i r h => by simp at h⟩
theorem RulesAre.at {l : Led} {vs : List Value} {rs : List (Str × Str)} (h : RulesAre l vs rs) {i : Nat} {v : Value} (hv : vs[i]? = some v) : ∃ (r : Str × Str) (x : Addr) (t : Tok), rs[i]? = some r ∧ v = .ref x ∧ RuleOk l x r.1 (.str r.2 t) := by
  have hi : i < rs.length := by rw [← h.1]; exact (List.getElem?_eq_some_iff.mp hv).1
  obtain ⟨x, t, a, b⟩ := h.2 i _ (List.getElem?_eq_getElem hi)
  rw [hv] at a
  exact ⟨_, x, t, List.getElem?_eq_getElem hi, Option.some.inj a, b⟩
def reach (s p : Str) : Nat := if Txt.startswith s p = true then p.length + 1 else 0
def alStep (s : Str) (st : Int × Option Str) (r : Str × Str) : Int × Option Str :=
  if reach s r.1 = 0 then st else if st.1 < (reach s r.1 : Int) then ((reach s r.1 : Int), some r.2) else if (reach s r.1 : Int) = st.1 ∧ st.2 = some (Str.ofString "") then (st.1, some r.2) else st
def allow (rs : List (Str × Str)) (s : Str) : Option Str := (rs.foldl (alStep s) (-1, none)).2
def ValOf (a : Option Str) (v : Value) : Prop := match a with | none => v = .bool true | some x => ∃ t, v = .str x t
inductive AlJ (x : Addr) (s : Str) (t : Tok) (led : Led) (st : Int × Option Str) (m₁ : Loc) (l₁ : Led) : Prop
  | mk (t1 : Tok) (v : Value) (o1 o2 : Option Value) (hm : m₁ = [(Str.ofString "self", some (.ref x)), (Str.ofString "filename", some (.str s t)), (Str.ofString "best_match", some (.int st.1 t1)), (Str.ofString "allowance", some v), (Str.ofString "line", o1), (Str.ofString "m", o2)]) (hl : l₁ = led) (hav : ValOf st.2 v) (hzl : ∀ z, st.2 = some z → z.length < 1000)
section
variable {c : Cx} {m : Loc} {led : Led} {X : Value → Loc → Led → Prop} {Q : Value → Loc → Led → Prop} {env : Env}
theorem T.truthy_int {a : Int} {t : Tok} {Q : Bool → Loc → Led → Prop} (h : Q (a != 0) m led) : T c m led (truthy (.int a t)) Q X := .mk fun hp tk R => PySem.P.truthy_int (post_ok R h)
theorem T.truthy_str {x : Str} {t : Tok} {Q : Bool → Loc → Led → Prop} (hx : x.length < 2 ^ 60) (h : Q (!(x == Str.ofString "")) m led) : T c m led (truthy (.str x t)) Q X := .mk fun hp tk R => PySem.P.truthy_str (by omega) (post_ok (tk := tk + 2) R (by
  have : ((x.length : Int) != 0) = !(x == Str.ofString "") := by
    by_cases hx0 : x.length = 0
    · have h1 : x = Str.ofString "" := eq_of_both_empty hx0 rfl
      rw [h1]; rfl
    · have h1 : x ≠ Str.ofString "" := fun q => hx0 (by rw [q]; rfl)
      have h2 : (x == Str.ofString "") = false := by simpa using h1
      rw [h2]; simp; omega
  rw [this]; exact h))
theorem T.unary {op : UnaryOp} {x : Expr} {pos : Pos} (h : T c m led (eval x env) (fun v m₁ l₁ => T c m₁ l₁ (unaryOp op v) Q X) X) : T c m led (eval (.UnaryOp op x pos) env) Q X := .mk fun hp tk R => UnaryOp_ (then_wp (h.run hp tk R) fun _ _ _ _ _ R₁ q₁ => q₁.run _ _ R₁)
theorem T.neg {a : Int} {t : Tok} (h : ∀ t, Q (.int (-a) t) m led) : T c m led (unaryOp .USub (.int a t)) Q X := .mk fun hp tk R => neg_int (post_ok (tk := tk + 1) R (h _))
theorem allowance_T {n : Nat} (G : Gd c (n + 2)) {x dx rl : Addr} {k : Nat → Int × Tok} {a d q : Value} {vs : List Value} {e : Nat} {rs : List (Str × Str)} {s : Str} {t : Tok} (hx : (x, instObj 59 dx) ∈ led) (hdx : (dx, entO k a (.ref rl) d q) ∈ led) (hl : (rl, lst vs e) ∈ led) (hr : RulesAre led vs rs) (hsm : ∀ r ∈ rs, r.2.length < 1000)
    (h : ∀ v, ValOf (allow rs s) v → Q v m led) : T c m led (call (.ref 56) [.ref x, .str s t]) Q X := by
  refine T.def [(Str.ofString "self", some (.ref x)), (Str.ofString "filename", some (.str s t)), (Str.ofString "best_match", none), (Str.ofString "allowance", none), (Str.ofString "line", none), (Str.ofString "m", none)] G rfl (by kernel_rfl) (by kernel_rfl) (by kernel_rfl) rfl ?_
  intro c' hw G'
  repeat' wtm_at "c"
  refine T.unary ?_
  repeat' wtm_at "c"
  refine T.neg fun t0 => ?_
  repeat' wtm_at "c"
  refine T.for (fun _ => rfl) ?_
  refine T.attr (by with_unfolding_all rfl) ?_
  repeat' wtm_at "c"
  refine T.getA (v := .ref rl) G' hx hdx (ent_ga _) (by kernel_rfl) rfl ?_
  refine T.iter_list (x := rl) (vs := vs) (n := e) G'.hdl (fun p hp => ?_) fun I oI S W hS => ?_
  · rw [List.mem_singleton.mp hp]; exact .inl hl
  refine TC.for W hS (fun i m₁ l₁ => AlJ x s t led ((rs.take i).foldl (alStep s) (-1, none)) m₁ l₁) ?_ ?_ ?_ ?_
  · rintro i m₁ l₁ ⟨_, _, _, _, _, rfl, _⟩ p hp
    rw [List.mem_singleton.mp hp]; exact .inl hl
  · exact ⟨_, _, _, _, rfl, rfl, rfl, fun z hz => by cases hz⟩
  · rintro i v o m₁ l₁ hi hv ⟨t1, av, o1, o2, rfl, rfl, hav, hzl⟩
    obtain ⟨⟨p, ver⟩, y, t2, hri, rfl, hy⟩ := hr.at hv
    have hver := hsm _ (List.mem_of_getElem? hri)
    rw [take_snoc hri, List.foldl_append, List.foldl_cons, List.foldl_nil]
    generalize ((rs.take i).foldl (alStep s) (-1, none)) = st at hav hzl ⊢
    obtain ⟨b, al⟩ := st
    obtain ⟨dy, ky, ay, ry, fy, fo, fd, h1, h2, h3, h4, h5⟩ := hy
    refine T.asName ?_
    repeat' wtm_at "c"
    refine T.mcall (by kernel_rfl) (by kernel_rfl) ?_
    repeat' wtm_at "c"
    refine T.mown (f := 49) (v := .ref fy) G' (.tail _ h1) (.tail _ h2) (by kernel_rfl) (by kernel_rfl) (by kernel_rfl) (by kernel_rfl) (by kernel_rfl) rfl ?_
    refine T.cwf h4 ?_
    repeat' wtm_at "c"
    refine ⟨.tail _ h3, ?_⟩
    refine h5 c' n _ _ s t _ _ G' (fun q hq => .tail _ hq) fun t3 => ?_
    show T c' _ _ (storeName _ _ (.int ((reach s p : Nat) : Int) t3)) _ _
    repeat' wtm_at "c"
    refine T.truth rfl ?_
    repeat' wtm_at "c"
    refine T.truthy_int ?_
    have hst : alStep s (b, al) (p, ver) = if reach s p = 0 then (b, al) else if b < (reach s p : Int) then ((reach s p : Int), some ver) else if (reach s p : Int) = b ∧ al = some (Str.ofString "") then (b, some ver) else (b, al) := rfl
    by_cases hr0 : reach s p = 0
    · rw [hr0]
      rw [if_neg (by decide)]
      repeat' wtm_at "c"
      rw [hst, if_pos hr0]
      exact ⟨_, .refl _, _, _, _, _, rfl, rfl, hav, hzl⟩
    · rw [if_pos (by simpa using hr0)]
      repeat' wtm_at "c"
      by_cases hlt : b < (reach s p : Int)
      · rw [decide_eq_true hlt, if_pos rfl]
        repeat' wtm_at "c"
        refine T.attr (by with_unfolding_all rfl) ?_
        repeat' wtm_at "c"
        refine T.getA (v := .str ver t2) G' (.tail _ h1) (.tail _ h2) (ent_ga _) (by kernel_rfl) rfl ?_
        repeat' wtm_at "c"
        rw [hst, if_neg hr0, if_pos hlt]
        exact ⟨_, .refl _, _, _, _, _, rfl, rfl, ⟨_, rfl⟩, fun z hz => by cases hz; exact hver⟩
      · rw [decide_eq_false hlt, if_neg Bool.false_ne_true]
        repeat' wtm_at "c"
        refine T.and1 ?_
        repeat' wtm_at "c"
        by_cases heq : (reach s p : Int) = b
        · rw [show ((reach s p : Int) == b) = true by simpa using heq, if_pos rfl]
          refine T.and1 ?_
          refine T.isNot ?_
          refine T.truth rfl ?_
          repeat' wtm_at "c"
          cases al with
          | none =>
            cases hav
            refine T.truthy_bool ?_
            show if (!true) = true then _ else _
            rw [if_neg (by decide), if_neg (by decide)]
            repeat' wtm_at "c"
            rw [hst, if_neg hr0, if_neg hlt, if_neg (by simp)]
            exact ⟨_, .refl _, _, _, _, _, rfl, rfl, rfl, hzl⟩
          | some z =>
            obtain ⟨tz, rfl⟩ := hav
            have hz1 := hzl z rfl
            refine T.truthy_str (by omega) ?_
            by_cases hze : z = Str.ofString ""
            · subst hze
              rw [if_pos (by decide)]
              refine T.and0 ?_
              rw [if_pos rfl]
              repeat' wtm_at "c"
              refine T.attr (by with_unfolding_all rfl) ?_
              repeat' wtm_at "c"
              refine T.getA (v := .str ver t2) G' (.tail _ h1) (.tail _ h2) (ent_ga _) (by kernel_rfl) rfl ?_
              repeat' wtm_at "c"
              rw [hst, if_neg hr0, if_neg hlt, if_pos ⟨heq, rfl⟩]
              exact ⟨_, .refl _, _, _, _, _, rfl, rfl, ⟨_, rfl⟩, fun z hz => by cases hz; exact hver⟩
            · have hzb : (z == Str.ofString "") = false := by simpa using hze
              rw [hzb, if_neg (by decide), if_neg (by decide)]
              repeat' wtm_at "c"
              rw [hst, if_neg hr0, if_neg hlt, if_neg (fun q => hze (Option.some.inj q.2))]
              exact ⟨_, .refl _, _, _, _, _, rfl, rfl, ⟨_, rfl⟩, hzl⟩
        · rw [show ((reach s p : Int) == b) = false by simpa using heq, if_neg Bool.false_ne_true, if_neg Bool.false_ne_true]
          repeat' wtm_at "c"
          rw [hst, if_neg hr0, if_neg hlt, if_neg (fun q => heq q.1)]
          exact ⟨_, .refl _, _, _, _, _, rfl, rfl, hav, hzl⟩
  · rintro m₁ l₁ ⟨t1, v, o1, o2, rfl, rfl, hv, _⟩
    rw [hr.1, List.take_length] at hv
    repeat' wtm_at "c"
    exact ⟨_, .refl _, h v hv⟩
end
-- TS
theorem updF_of {d : Addr} {o : Obj} : ∀ {led : Led} {g : Obj → Led}, (∀ o', Up d o o' led (g o')) → (led.map (·.1)).Nodup → UpdF d o led g
  | [], g, u, _ => by have := (u o).mem; cases this
  | p :: r, g, u, nd => by
    rw [List.map_cons, List.nodup_cons] at nd
    by_cases hp : p.1 = d
    · have hno : ∀ o' r', ¬ Up d o o' r r' := fun o' r' v => nd.1 (by rw [hp]; exact List.mem_map_of_mem (f := (·.1)) v.mem)
      have e : p = (d, o) := by
        rcases List.mem_cons.mp (u o).mem with q | q
        · exact q.symm
        · exact (nd.1 (by rw [hp]; exact List.mem_map_of_mem (f := (·.1)) q)).elim
      subst e
      have hg : g = fun o' => (d, o') :: r := funext fun o' => by
        generalize hx : g o' = x
        have := u o'
        rw [hx] at this
        cases this with
        | head => rfl
        | tail v => exact (hno _ _ v).elim
      rw [hg]
      exact .head fun q hq e => nd.1 (by show d ∈ _; rw [← e]; exact List.mem_map_of_mem (f := (·.1)) hq)
    · have key : ∀ o', ∃ r', g o' = p :: r' ∧ Up d o o' r r' := fun o' => by
        generalize hx : g o' = x
        have := u o'
        rw [hx] at this
        cases this with
        | head => exact (hp rfl).elim
        | tail v => exact ⟨_, rfl, v⟩
      have hg : g = fun o' => p :: (g o').tail := funext fun o' => by
        obtain ⟨r', e, _⟩ := key o'
        rw [e]; rfl
      rw [hg]
      refine .tail hp (updF_of (fun o' => ?_) nd.2)
      obtain ⟨r', e, v⟩ := key o'
      rw [e]; exact v
abbrev IntD (w : World) (o : Obj) (kvs : List (Int × Value)) : Prop := o.IsDictOf (intKind pw w) kvs
abbrev IntS (w : World) (o : Obj) (S : Int → Bool) (n : Nat) : Prop := o.SetObjOf (intKind pw w) S n
section
variable {c : Cx} {m : Loc} {led : Led} {X : Value → Loc → Led → Prop} {Q : Value → Loc → Led → Prop} {env : Env} {d : Addr} {o : Obj} {kvs : List (Int × Value)} {k : Int} {t : Tok}
theorem T.dict0 {n : Nat} {pos : Pos} (G : Gd c n) (h : ∀ d o, (d == sysModules) = false → IntD c.w o [] → Q (.ref d) m ((d, o) :: led)) : T c m led (eval (.Dict [] [] pos) env) Q X := .mk fun hp tk R => by
  refine newDict_K (s := c.s hp tk) (full_fr R) (full_news R) (G.lim.keeps (full_sub R)) fun d h' o F' N' hlt lo _ _ hd _ => ?_
  refine ⟨m, _, h', tk, rfl, R.of_full F' N' ?_, h d o lo hd⟩
  rw [List.map_cons, List.nodup_cons]
  refine ⟨fun q => ?_, R.nd⟩
  obtain ⟨p, hp2, e⟩ := List.mem_map.mp q
  have := hlt p hp2
  rw [e] at this; exact Nat.lt_irrefl _ this
theorem T.dgm {pl : Sem Bool} {Q : Value × List Value → Loc → Led → Prop} (hm : (d, o) ∈ led) (hd : IntD c.w o kvs) (h : Q (.builtin "dict.get", [.ref d]) m led) : T c m led (getMethod (.ref d) "get" pl) Q X := .mk fun hp tk R => kdg_method (s := c.s hp tk) R.news hm hd (post_ok R h)
theorem T.dget (hm : (d, o) ∈ led) (hd : IntD c.w o kvs) (lo : (d == sysModules) = false) (h : Q ((valueAt kvs k).getD .none) m led) : T c m led (call (.builtin "dict.get") [.ref d, .int k t]) Q X := .mk fun hp tk R =>
  kdg_get1 (s := c.s hp tk) R.news hm hd lo (k := k) (by simp [intKind, Value.isInt]) _ rfl (post_ok (tk := tk + 1) R h)
theorem T.ditem {value slice : Expr} {v : Value} (hm : (d, o) ∈ led) (hd : IntD c.w o kvs) (hl : valueAt kvs k = some v) (hs : subscripted slice false (.ref d) (.int k t) = operate [.ref d, .int k t] (getItem (.ref d) (.int k t))) (hg : ∀ r, letTemporaryGo value (.ref d) r = Pure.pure ())
    (h : Q v m led) : T c m led (subscriptTail value slice (.ref d) (.int k t)) Q X := .mk fun hp tk R =>
  kda_item (s := c.s hp tk) R.news hm hd (k := k) (by simp [intKind, Value.isInt]) hl (post_ok (tk := tk + 1) R h) hs hg
theorem T.dset {v : Value} {g : Obj → Led} {Q : Unit → Loc → Led → Prop} (U : ∀ o', Up d o o' led (g o')) (hd : IntD c.w o kvs) (hsz : kvs.length ≤ sizeLine) (h : ∀ o', IntD c.w o' (stored kvs k v) → Q () m (g o')) : T c m led (setItem (.ref d) (.int k t) v) Q X := .mk fun hp tk R =>
  kda_set (s := c.s hp tk) (full_fr R) (full_news R) (updF_of U R.nd) hd (k := k) (by simp [intKind, Value.isInt]) hsz fun h' o' F' N' hd' => ⟨m, g o', h', tk + 1, rfl, R.of_full F' N' (by rw [(U o').keys]; exact R.nd), h o' hd'⟩
theorem T.din {Q : Value → Loc → Led → Prop} (hm : (d, o) ∈ led) (hd : IntD c.w o kvs) (lo : (d == sysModules) = false) (h : Q (.bool (valueAt kvs k).isSome) m led) : T c m led (compareOp .In (.int k t) (.ref d)) Q X := .mk fun hp tk R =>
  kda_in (s := c.s hp tk) R.news hm hd lo (k := k) (by simp [intKind, Value.isInt]) _ rfl (post_ok (tk := tk + 1) R h)
theorem T.ddel {g : Obj → Led} {Q : Unit → Loc → Led → Prop} (U : ∀ o', Up d o o' led (g o')) (hd : IntD c.w o kvs) (hl : (valueAt kvs k).isSome = true) (hsz : kvs.length ≤ sizeLine) (h : ∀ o', IntD c.w o' (without kvs k) → Q () m (g o')) : T c m led (delItem (.ref d) (.int k t)) Q X := .mk fun hp tk R =>
  kob_del (s := c.s hp tk) (full_fr R) (full_news R) (updF_of U R.nd) hd (k := k) (by simp [intKind, Value.isInt]) hl hsz fun h' o' F' N' hd' => ⟨m, g o', h', tk + 1, rfl, R.of_full F' N' (by rw [(U o').keys]; exact R.nd), h o' hd'⟩
theorem T.set0 (h : ∀ d o, IntS c.w o (fun _ => false) 0 → Q (.ref d) m ((d, o) :: led)) : T c m led (call (.type "set") []) Q X := .mk fun hp tk R => by
  refine kse_new (s := c.s hp tk) (full_fr R) (full_news R) fun D h' led' F' N' hlt hs _ => ?_
  refine ⟨m, _, h', tk, rfl, R.of_full F' N' ?_, h D _ hs⟩
  rw [List.map_cons, List.nodup_cons]
  refine ⟨fun q => ?_, R.nd⟩
  obtain ⟨p, hp2, e⟩ := List.mem_map.mp q
  have := hlt p hp2
  rw [e] at this; exact Nat.lt_irrefl _ this
variable {S : Int → Bool} {n : Nat}
theorem T.sgm_add {pl : Sem Bool} {Q : Value × List Value → Loc → Led → Prop} {g : Obj → Led} (U : ∀ o', Up d o o' led (g o')) (hd : IntS c.w o S n) (hb : n < scanBound) (h : Q (.builtin "set.add", [.ref d]) m led) : T c m led (getMethod (.ref d) "add" pl) Q X := .mk fun hp tk R =>
  kse_method (s := c.s hp tk) R.news (updF_of U R.nd) hd hb (post_ok R h)
theorem T.sadd1 {g : Obj → Led} (U : ∀ o', Up d o o' led (g o')) (hd : IntS c.w o S n) (hb : n + 1 < scanBound) (h : ∀ o', IntS c.w o' (fun k' => S k' || decide (k' = k)) (if S k then n else n + 1) → Q .none m (g o')) : T c m led (call (.builtin "set.add") [.ref d, .int k t]) Q X := .mk fun hp tk R =>
  kse_add (s := c.s hp tk) (full_fr R) (full_news R) (updF_of U R.nd) hd hb (k := k) (by simp [intKind, Value.isInt]) rfl fun h' o' F' N' hd' => ⟨m, g o', h', tk + 1, rfl, R.of_full F' N' (by rw [(U o').keys]; exact R.nd), h o' hd'⟩
theorem T.sin {g : Obj → Led} (U : ∀ o', Up d o o' led (g o')) (hd : IntS c.w o S n) (hb : n < scanBound) (h : Q (.bool (S k)) m led) : T c m led (compareOp .In (.int k t) (.ref d)) Q X := .mk fun hp tk R =>
  kse_in (s := c.s hp tk) R.news (updF_of U R.nd) hd hb (k := k) (by simp [intKind, Value.isInt]) rfl (post_ok (tk := tk + 1) R h)
theorem T.assignS {o i : Expr} {pos' pos : Pos} {value : Expr} {Q : Flow → Loc → Led → Prop} (hs : swapsWith value (some (.Subscript o i pos')) pos.line env = Pure.pure false)
    (h : T c m led (eval value env) (fun v m₁ l₁ => T c m₁ l₁ (eval o env) (fun ov m₂ l₂ => T c m₂ l₂ (eval i env) (fun iv m₃ l₃ => T c m₃ l₃ (setItem ov iv v) (fun _ => Q .next) X) X) X) X) : T c m led (exec (.Assign [.Subscript o i pos'] value pos) env) Q X := .mk fun hp tk R =>
  wpAny_Assign_Subscript (then_wp (h.run hp tk R) fun _ _ _ _ _ R₁ q₁ => then_wp (q₁.run _ _ R₁) fun _ _ _ _ _ R₂ q₂ => then_wp (q₂.run _ _ R₂) fun _ _ _ _ _ R₃ q₃ => then_wp (q₃.run _ _ R₃) fun _ _ _ _ _ R₄ q₄ => post_ok R₄ q₄) hs
theorem T.assign2 {t₁ t₂ value : Expr} {pos : Pos} {Q : Flow → Loc → Led → Prop} (he : (assignEach [t₁, t₂] env).map (·.2) = [PySem.assign t₁ env, PySem.assign t₂ env]) (hw : swappedStores [t₁, t₂] value env = Pure.pure none)
    (h : T c m led (eval value env) (fun v m₁ l₁ => T c m₁ l₁ (PySem.assign t₁ env v) (fun _ m₂ l₂ => T c m₂ l₂ (PySem.assign t₂ env v) (fun _ => Q .next) X) X) X) : T c m led (exec (.Assign [t₁, t₂] value pos) env) Q X := .mk fun hp tk R =>
  wpAny_Assign_two (then_wp (h.run hp tk R) fun _ _ _ _ _ R₁ q₁ => then_wp (q₁.run _ _ R₁) fun _ _ _ _ _ R₂ q₂ => then_wp (q₂.run _ _ R₂) fun _ _ _ _ _ R₃ q₃ => post_ok R₃ q₃) he hw
theorem T.asSub {o i : Expr} {pos : Pos} {v : Value} {Q : Unit → Loc → Led → Prop} (h : T c m led (eval o env) (fun ov m₁ l₁ => T c m₁ l₁ (eval i env) (fun iv m₂ l₂ => T c m₂ l₂ (setItem ov iv v) Q X) X) X) : T c m led (PySem.assign (.Subscript o i pos) env v) Q X := .mk fun hp tk R => by
  rw [assign_Subscript]
  refine wpAny_bind (wpAny_holding (then_wp (h.run hp tk R) fun _ _ _ _ _ R₁ q₁ => wpAny_bind (wpAny_holding (then_wp (q₁.run _ _ R₁) fun _ _ _ _ _ R₂ q₂ => wpAny_bind (wpAny_standAt (wpAny_bind (wpAny_holding (then_wp (q₂.run _ _ R₂) fun _ _ _ _ _ R₃ q₃ => wpAny_release (post_ok R₃ q₃)))))))))
theorem T.walrus {target value : Expr} {pos : Pos} (h : T c m led (eval value env) (fun v m₁ l₁ => T c m₁ l₁ (PySem.assign target env v) (fun _ => Q v) X) X) : T c m led (eval (.NamedExpr target value pos) env) Q X := .mk fun hp tk R =>
  wpAny_NamedExpr (then_wp (h.run hp tk R) fun _ _ _ _ _ R₁ q₁ => then_wp (q₁.run _ _ R₁) fun _ _ _ _ _ R₂ q₂ => post_ok R₂ q₂)
theorem T.isNone {v : Value} (hv : plainIs v .none = true) (h : Q (.bool (v == .none)) m led) : T c m led (compareOp .Is v .none) Q X := .mk fun hp tk R => wpAny_is_plain hv (post_ok R h)
theorem T.isNotNone {v : Value} (hv : plainIs v .none = true) (h : Q (.bool (!(v == .none))) m led) : T c m led (compareOp .IsNot v .none) Q X := .mk fun hp tk R => wpAny_isNot_plain hv (post_ok R h)
end
-- TT
section
variable {c : Cx} {m : Loc} {led : Led} {X : Value → Loc → Led → Prop} {Q : Value → Loc → Led → Prop} {env : Env}
/-- a def of the text with a star for the rest of its arguments -/
theorem T.defV {n : Nat} {name qual : Str} {params : Arguments} {body : List Stmt} {scope : Scope} {dV kV doc pm cdv ct oc : Value} {an od : Option Addr} {osl : Array (Option Value)} {f : Addr} {args rest : List Value} {B : Value → List (Str × Value)} (m' : Addr → Loc)
    (G : Gd c (n + 1)) (ho : c.K.lookup f = some ⟨oc, od, .func (fnOf name qual params body scope dV kV doc pm an cdv ct), osl⟩) (hcd : codeIn c.K cdv qual = true)
    (hbind : bindArgs (fnOf name qual params body scope dV kV doc pm an cdv ct) ⟨args, []⟩ = (newTuple rest >>= fun t => Pure.pure (B t))) (hB : ∀ a, B (.ref a) = bindsOf (m' a)) (hsz : rest.length ≤ sizeLine)
    (hok : ∀ a, (okM (m' a) && ((bindsOf (m' a)).all fun x => decide (scope.names.lookup x.1 = some .local)) && !scope.isCoroutine && !scope.isGenerator && (scope.names.all fun x => x.2 != .cell)) = true) (hk : scope.kind = .function)
    (h : ∀ (c' : Cx) (a : Addr), c'.w = c.w → Gd c' n → T c' (m' a) ((a, tup rest) :: led) (execs body (envOf qual scope c'.L f cdv)) (fun fl _ l' => ∃ l'', Sub l'' l' ∧ Q (match fl with | .ret v => v | _ => .none) m l'') NoX) :
    T c m led (call (.ref f) args) Q X := .mk fun hp tk R => by
  have hok' := hok hp.objs.size
  simp only [Bool.and_eq_true, Bool.not_eq_true'] at hok'
  obtain ⟨⟨⟨⟨h1, hloc⟩, hco⟩, hgen⟩, hcell⟩ := hok'
  have hm : ∀ y, lookL y (m' hp.objs.size) = (bindsOf (m' hp.objs.size)).reverse.lookup y := fun y => by rw [lookup_reverse_nodup _ _ (bindsOf_nodup _ h1), lookup_filter y _ h1]
  have R1 := R.push (tup rest) rfl
  have kp : ∀ b o, c.h0.get? b = some o → hp.get? b = some o := R.fr.keep
  have hX : c.K.In hp := Frag.In.keeps G.K kp
  have d1 := G.depth
  refine wpAny_call (codeAny_call_function (fd := fnOf name qual params body scope dV kV doc pm an cdv ct) (body := body) (by omega) (hX _ _ ho) rfl hco hgen rfl (codeRec_of hX hcd) ?_)
  rw [hbind]
  refine wpAny_bind (wpAny_newTuple (wpAny_pure ?_) hsz)
  rw [hB]
  refine wpAny_newFunctionEnv (fun x hx => by have := List.all_eq_true.mp hcell x hx; simpa using this) (locs hloc) (fun h₁ hns hsb => ⟨(G.lim.keeps R1.fr.keep).fresh _ hsb, codeAny_func ?_⟩) hk
  have hk₁ : ∀ b o, (hp.push (tup rest)).get? b = some o → h₁.get? b = some o := fun b o e => hsb.extBut b o (Nat.ne_of_lt (Heap.lt_size e)) (Heap.get?_push_of_some _ e)
  have e1 : callEnv (fnOf name qual params body scope dV kV doc pm an cdv ct) (hp.push (tup rest)).objs.size f = envOf qual scope (hp.push (tup rest)).objs.size f cdv := rfl
  have hh := h (c.in (hp.push (tup rest)) ((hp.objs.size, tup rest) :: led) (c.A.deeper (envOf qual scope (hp.push (tup rest)).objs.size f cdv))) hp.objs.size rfl (G.in R1 (Nat.le_refl _) (by show c.A.units + 3 ≤ _; omega) G.hdl (.inr ⟨envOf qual scope (hp.push (tup rest)).objs.size f cdv, rfl, (by show scope.kind ≠ _; rw [hk]; intro q; cases q), rfl⟩))
  have R₁ : Rep (c.in (hp.push (tup rest)) ((hp.objs.size, tup rest) :: led) (c.A.deeper (envOf qual scope (hp.push (tup rest)).objs.size f cdv))) (m' hp.objs.size) ((hp.objs.size, tup rest) :: led) h₁ := by
    refine R1.enter ?_ hk₁
    have : (fun y => lookL y (m' hp.objs.size)) = fun y => (bindsOf (m' hp.objs.size)).reverse.lookup y := funext hm
    rw [this]; exact hns
  refine wpAny_mono (hh.run h₁ _ R₁) (fun fl s' ⟨m₂, l₂, h', tk', e, R', l3, hs, q⟩ => ?_) fun _ _ ⟨_, _, _, _, _, _, x⟩ => x.elim
  subst e
  exact ⟨_, _, h', tk', rfl, (R1.back R').sub hs, q⟩
/-- as TD.def, with defaults that lie in the ground -/
theorem TD.defD {n : Nat} {name qual : Str} {params : Arguments} {body : List Stmt} {scope : Scope} {dV kV doc pm cdv ct oc : Value} {an od : Option Addr} {osl : Array (Option Value)} {f : Addr} {args : List Value} (m' : Loc)
    (G : Gd c (n + 2)) (ho : c.K.lookup f = some ⟨oc, od, .func (fnOf name qual params body scope dV kV doc pm an cdv ct), osl⟩) (hcd : codeIn c.K cdv qual = true)
    (hbind : ∀ s : Shared, c.K.In s.heap → BindsTo s (fnOf name qual params body scope dV kV doc pm an cdv ct) ⟨args, []⟩ (bindsOf m'))
    (hok : (okM m' && ((bindsOf m').all fun x => decide (scope.names.lookup x.1 = some .local)) && !scope.isCoroutine && !scope.isGenerator && (scope.names.all fun x => x.2 != .cell)) = true) (hk : scope.kind = .function)
    (h : ∀ c' : Cx, c'.w = c.w → Gd c' n → T c' m' led (execs body (envOf qual scope c'.L f cdv)) (fun fl _ l' => ∃ l'', Sub l'' l' ∧ Q (match fl with | .ret v => v | _ => .none) m l'') NoX) :
    TD c m led (.ref f) args Q := .mk fun hp tk A' hdp hun hhd hfr R => by
  simp only [Bool.and_eq_true, Bool.not_eq_true'] at hok
  obtain ⟨⟨⟨⟨h1, hloc⟩, hco⟩, hgen⟩, hcell⟩ := hok
  have hm : ∀ y, lookL y m' = (bindsOf m').reverse.lookup y := fun y => by rw [lookup_reverse_nodup _ _ (bindsOf_nodup m' h1), lookup_filter y m' h1]
  have kp : ∀ b o, c.h0.get? b = some o → hp.get? b = some o := R.fr.keep
  have hX : c.K.In hp := Frag.In.keeps G.K kp
  have d1 := G.depth
  refine codeAny_call_def (fd := fnOf name qual params body scope dV kV doc pm an cdv ct) (body := body) (binds := bindsOf m') (by omega) (hX _ _ ho) rfl (G.lim.keeps kp) (codeRec_of hX hcd) rfl (hbind _ hX)
    (fun x hx => by have := List.all_eq_true.mp hcell x hx; simpa using this) (locs hloc) (fun h₁ hns hk₁ => ?_) hco hgen hk
  have e1 : callEnv (fnOf name qual params body scope dV kV doc pm an cdv ct) hp.objs.size f = envOf qual scope hp.objs.size f cdv := rfl
  rw [e1]
  have hh := h (c.in hp led (A'.deeper (envOf qual scope hp.objs.size f cdv))) rfl (G.in2 R (by show A'.depth + 1 ≤ _; omega) (by show A'.units + 3 ≤ _; omega) hhd (.inr ⟨envOf qual scope hp.objs.size f cdv, (by show A'.frames.map _ = _; rw [hfr]), (by show scope.kind ≠ _; rw [hk]; intro q; cases q), rfl⟩))
  have R₁ : Rep (c.in hp led (A'.deeper (envOf qual scope hp.objs.size f cdv))) m' led h₁ := by
    refine R.enter ?_ hk₁
    have : (fun y => lookL y m') = fun y => (bindsOf m').reverse.lookup y := funext hm
    rw [this]; exact hns
  refine wpAny_mono (hh.run h₁ (tk + (bindsOf m').length) R₁) (fun fl s' ⟨m₂, l₂, h', tk', e, R', l3, hs, q⟩ => ?_) fun _ _ ⟨_, _, _, _, _, _, x⟩ => x.elim
  subst e
  exact ⟨_, _, h', tk', rfl, (R.back R').sub hs, q⟩
end
-- F12
abbrev srtO (k : Nat → Int × Tok) (n2i ready po fi : Value) : Obj := dictOf [ent1 (k 0) "_node2info" n2i, ent1 (k 1) "_ready_nodes" ready, ent1 (k 2) "_npassedout" po, ent1 (k 3) "_nfinished" fi] 4
theorem srt_set (w : World) : findIn (kk.heap_1 w.params) (.ref 186) "__setattr__" = some (some (.builtin "object.__setattr__")) := by kernel_rfl
theorem srt_ga (w : World) : findIn (kk.heap_1 w.params) (.ref 186) "__getattribute__" = some (some (.builtin "object.__getattribute__")) := by kernel_rfl
theorem srt_over (w : World) : plainOver (kk.heap_1 w.params) 186 = true := by kernel_rfl
theorem srt_dict (w : World) : hasDictIn (kk.heap_1 w.params) 186 = true := by kernel_rfl
theorem srt_makes (w : World) : makesIn (kk.heap_1 w.params) 186 = true := by kernel_rfl
theorem srt_init (w : World) : findIn (kk.heap_1 w.params) (.ref 186) "__init__" = some (some (.ref 122)) := by kernel_rfl
theorem g_Sorter (w : World) : nsIn (kk.heap_1 w.params) mainGlobals (Str.ofString "TopologicalSorter") = some (some (.ref 186)) := by kernel_rfl
theorem nd_set (w : World) : findIn (kk.heap_1 w.params) (.ref 89) "__setattr__" = some (some (.builtin "object.__setattr__")) := by kernel_rfl
theorem nd_over (w : World) : plainOver (kk.heap_1 w.params) 89 = true := by kernel_rfl
theorem nd_makes (w : World) : makesIn (kk.heap_1 w.params) 89 = true := by kernel_rfl
theorem nd_init (w : World) : findIn (kk.heap_1 w.params) (.ref 89) "__init__" = some (some (.ref 85)) := by kernel_rfl
theorem g_Node (w : World) : nsIn (kk.heap_1 w.params) mainGlobals (Str.ofString "_NodeInfo") = some (some (.ref 89)) := by kernel_rfl
theorem nd_cls (w : World) : isClsIn (kk.heap_1 w.params) 89 = true := by kernel_rfl
theorem nd_node (w : World) : takerIn (kk.heap_1 w.params) 89 "node" = some (some (.ref 90)) := by kernel_rfl
theorem nd_np (w : World) : takerIn (kk.heap_1 w.params) 89 "npredecessors" = some (some (.ref 91)) := by kernel_rfl
theorem nd_sc (w : World) : takerIn (kk.heap_1 w.params) 89 "successors" = some (some (.ref 92)) := by kernel_rfl
theorem nd_s90 (w : World) : slotIn (kk.heap_1 w.params) 90 89 = some 0 := by kernel_rfl
theorem nd_s91 (w : World) : slotIn (kk.heap_1 w.params) 91 89 = some 1 := by kernel_rfl
theorem nd_s92 (w : World) : slotIn (kk.heap_1 w.params) 92 89 = some 2 := by kernel_rfl
abbrev ndObj (d : Addr) (a b s : Value) : Obj := ⟨.ref 89, some d, .plain, #[some a, some b, some s]⟩
section
variable {c : Cx} {m : Loc} {led : Led} {X : Value → Loc → Led → Prop} {Q : Value → Loc → Led → Prop} {env : Env}
theorem node_T {n : Nat} (G : Gd c (n + 2)) {k : Int} {t : Tok} (h : ∀ x d s tp, Q (.ref x) m ((x, ndObj d (.int k t) (.int 0 tp) (.ref s)) :: (d, dictOf [] 0) :: (s, lst [] 0) :: led)) : T c m led (call (.ref 89) [.int k t]) Q X := by
  refine T.new G (nd_makes _) (nd_init _) (by kernel_rfl) fun x dx => ?_
  refine TD.def [(Str.ofString "self", some (.ref x)), (Str.ofString "node", some (.int k t))] G rfl (by kernel_rfl) (by kernel_rfl) (by kernel_rfl) rfl ?_
  intro c' hw G'
  wtm_at "c"
  refine T.assignA (by kernel_rfl) ?_
  repeat' wtm_at "c"
  refine T.setS (dx := dx) (od := dictOf [] 0) (sl := #[]) (ox' := ⟨.ref 89, some dx, .plain, #[some (.int k t)]⟩) G' (by wtm_at "mem") (nd_set _) (nd_over _) (nd_node _) (by kernel_rfl) (nd_s90 _) (by decide) (by kernel_rfl) rfl (by wtm_at "up") ?_
  repeat' wtm_at "c"
  refine T.assignA (by kernel_rfl) ?_
  repeat' wtm_at "c"
  rename_i tp
  refine T.setS (dx := dx) (od := dictOf [] 0) (sl := #[some (.int k t)]) (ox' := ⟨.ref 89, some dx, .plain, #[some (.int k t), some (.int 0 tp)]⟩) G' (by wtm_at "mem") (nd_set _) (nd_over _) (nd_np _) (by kernel_rfl) (nd_s91 _) (by decide) (by kernel_rfl) rfl (by wtm_at "up") ?_
  repeat' wtm_at "c"
  refine T.assignA (by kernel_rfl) ?_
  refine T.list (by kernel_rfl) ?_
  refine T.snil ⟨by decide, fun s => ?_⟩
  repeat' wtm_at "c"
  refine T.setS (dx := dx) (od := dictOf [] 0) (sl := #[some (.int k t), some (.int 0 tp)]) (ox' := ndObj dx (.int k t) (.int 0 tp) (.ref s)) G' (by wtm_at "mem") (nd_set _) (nd_over _) (nd_sc _) (by kernel_rfl) (nd_s92 _) (by decide) (by kernel_rfl) rfl (by wtm_at "up") ?_
  repeat' wtm_at "c"
  exact ⟨_, by wtm_at "sub", rfl, h x dx s tp⟩
theorem sorter_T {n : Nat} (G : Gd c (n + 2)) (h : ∀ x dx k d o t1 t2, (d == sysModules) = false → IntD c.w o [] → Q (.ref x) m ((x, instObj 186 dx) :: (dx, srtO k (.ref d) .none (.int 0 t1) (.int 0 t2)) :: (d, o) :: led)) : T c m led (call (.ref 186) []) Q X := by
  refine T.new G (srt_makes _) (srt_init _) (by kernel_rfl) fun x dx => ?_
  refine TD.defD [(Str.ofString "self", some (.ref x)), (Str.ofString "graph", some .none), (Str.ofString "node", none), (Str.ofString "predecessors", none)] G rfl (by kernel_rfl) (fun s hX => binds_K hX rfl rfl rfl rfl rfl) (by kernel_rfl) rfl ?_
  intro c' hw G'
  wtm_at "c"
  refine T.assignA (by kernel_rfl) ?_
  refine T.dict0 G' fun d o lo hd => ?_
  repeat' wtm_at "c"
  refine T.setA (fun hs tk => [ent1 (hs, tk) "_node2info" (.ref d)]) 1 G' (by wtm_at "mem") (srt_set _) (srt_over _) (by kernel_rfl) (srt_dict _) (by kernel_rfl) (fun _ _ => by kernel_rfl) (fun _ _ => by show 1 ≤ 1000; decide) (fun tk => by wtm_at "up") fun t1 => ?_
  generalize PyData.keyHash c'.w.params (Str.ofString "_node2info") = k1
  repeat' wtm_at "c"
  refine T.assignA (by kernel_rfl) ?_
  repeat' wtm_at "c"
  refine T.setA (fun hs tk => [ent1 (k1, t1) "_node2info" (.ref d), ent1 (hs, tk) "_ready_nodes" .none]) 2 G' (by wtm_at "mem") (srt_set _) (srt_over _) (by kernel_rfl) (srt_dict _) (by kernel_rfl) (fun _ _ => by kernel_rfl) (fun _ _ => by show 2 ≤ 1000; decide) (fun tk => by wtm_at "up") fun t2 => ?_
  generalize PyData.keyHash c'.w.params (Str.ofString "_ready_nodes") = k2
  repeat' wtm_at "c"
  refine T.assignA (by kernel_rfl) ?_
  repeat' wtm_at "c"
  rename_i tp
  refine T.setA (fun hs tk => [ent1 (k1, t1) "_node2info" (.ref d), ent1 (k2, t2) "_ready_nodes" .none, ent1 (hs, tk) "_npassedout" (.int 0 tp)]) 3 G' (by wtm_at "mem") (srt_set _) (srt_over _) (by kernel_rfl) (srt_dict _) (by kernel_rfl) (fun _ _ => by kernel_rfl) (fun _ _ => by show 3 ≤ 1000; decide) (fun tk => by wtm_at "up") fun t3 => ?_
  generalize PyData.keyHash c'.w.params (Str.ofString "_npassedout") = k3
  repeat' wtm_at "c"
  refine T.assignA (by kernel_rfl) ?_
  repeat' wtm_at "c"
  rename_i tf
  refine T.setA (fun hs tk => [ent1 (k1, t1) "_node2info" (.ref d), ent1 (k2, t2) "_ready_nodes" .none, ent1 (k3, t3) "_npassedout" (.int 0 tp), ent1 (hs, tk) "_nfinished" (.int 0 tf)]) 4 G' (by wtm_at "mem") (srt_set _) (srt_over _) (by kernel_rfl) (srt_dict _) (by kernel_rfl) (fun _ _ => by kernel_rfl) (fun _ _ => by show 4 ≤ 1000; decide) (fun tk => by wtm_at "up") fun t4 => ?_
  generalize PyData.keyHash c'.w.params (Str.ofString "_nfinished") = k4
  repeat' wtm_at "c"
  refine T.isNotNone rfl ?_
  repeat' wtm_at "c"
  rw [if_neg (by decide)]
  repeat' wtm_at "c"
  refine ⟨_, ?_, rfl, h x dx (fun i => [(k1, t1), (k2, t2), (k3, t3), (k4, t4)].getD i (0, 0)) d o tp tf lo (hw ▸ hd)⟩
  show Sub ((x, instObj 186 dx) :: (dx, dictOf [ent1 (k1, t1) "_node2info" (.ref d), ent1 (k2, t2) "_ready_nodes" .none, ent1 (k3, t3) "_npassedout" (.int 0 tp), ent1 (k4, t4) "_nfinished" (.int 0 tf)] 4) :: (d, o) :: led) _
  wtm_at "sub"
end
-- F13
structure Nd where
  k : Nat
  x : Addr
  d : Addr
  s : Addr
  t : Tok
  np : Int
  tp : Tok
  us : List Value
  e : Nat
abbrev ndO (nd : Nd) : Obj := ndObj nd.d (.int (nd.k : Nat) nd.t) (.int nd.np nd.tp) (.ref nd.s)
abbrev ndL (nd : Nd) : Led := [(nd.x, ndO nd), (nd.d, dictOf [] 0), (nd.s, lst nd.us nd.e)]
def fl (nds : List Nd) : Led := nds.flatMap ndL
theorem fl_cons (nd : Nd) (r : List Nd) : fl (nd :: r) = (nd.x, ndO nd) :: (nd.d, dictOf [] 0) :: (nd.s, lst nd.us nd.e) :: fl r := rfl
def kvsOf (nds : List Nd) : List (Int × Value) := nds.map fun nd => ((nd.k : Int), Value.ref nd.x)
def Keyed (nds : List Nd) : Prop := (nds.map (·.k)).Nodup
theorem va_none {nds : List Nd} {k : Nat} (h : ∀ nd ∈ nds, nd.k ≠ k) : valueAt (kvsOf nds.reverse) (k : Int) = none := by
  unfold valueAt kvsOf
  rw [Option.map_eq_none_iff, List.find?_eq_none]
  intro p hp
  obtain ⟨nd, hn, rfl⟩ := List.mem_map.mp hp
  have := h nd (by simpa using hn)
  simp; omega
theorem va_some {nds : List Nd} (hK : Keyed nds) {nd : Nd} (hn : nd ∈ nds) : valueAt (kvsOf nds.reverse) (nd.k : Int) = some (.ref nd.x) := by
  unfold valueAt kvsOf
  rw [List.find?_map]
  have : nds.reverse.find? ((fun kv : Int × Value => decide (kv.1 = (nd.k : Int))) ∘ fun nd : Nd => ((nd.k : Int), Value.ref nd.x)) = some nd := by
    have hK' : (nds.reverse.map (·.k)).Nodup := by rw [List.map_reverse]; exact (List.reverse_perm _).nodup_iff.mpr hK
    have hn' : nd ∈ nds.reverse := by simpa using hn
    generalize nds.reverse = l at hK' hn'
    induction l with
    | nil => cases hn'
    | cons a r ih =>
      rw [List.map_cons, List.nodup_cons] at hK'
      rw [List.find?_cons]
      by_cases ha : a.k = nd.k
      · have : a = nd := by
          rcases List.mem_cons.mp hn' with e | e
          · exact e.symm
          · exact (hK'.1 (by rw [ha]; exact List.mem_map_of_mem e)).elim
        subst this
        simp
      · have hb : (((fun kv : Int × Value => decide (kv.1 = (nd.k : Int))) ∘ fun nd : Nd => ((nd.k : Int), Value.ref nd.x)) a) = false := by simp; omega
        rw [hb]
        refine ih hK'.2 ?_
        rcases List.mem_cons.mp hn' with e | e
        · exact (ha (by rw [e])).elim
        · exact e
  rw [this]; rfl
theorem st_new {nds : List Nd} {k : Nat} (h : ∀ nd ∈ nds, nd.k ≠ k) (nd : Nd) (hk : nd.k = k) : stored (kvsOf nds.reverse) (k : Int) (.ref nd.x) = kvsOf (nd :: nds).reverse := by
  have : (kvsOf nds.reverse).any (fun kv => kv.1 = (k : Int)) = false := by
    rw [List.any_eq_false]
    intro p hp
    obtain ⟨n2, hn, rfl⟩ := List.mem_map.mp hp
    have := h n2 (by simpa using hn)
    simp; omega
  unfold stored
  rw [this]
  simp [kvsOf, hk]
section
variable {c : Cx} {m : Loc} {led : Led} {X : Value → Loc → Led → Prop} {Q : Value → Loc → Led → Prop} {env : Env}
theorem gni_T {n : Nat} (G : Gd c (n + 3)) {x dx d : Addr} {o : Obj} {ks : Nat → Int × Tok} {rdy po fi : Value} {nds : List Nd} {base : Led} {k : Nat} {t : Tok} (lo : (d == sysModules) = false) (hd : IntD c.w o (kvsOf nds.reverse)) (hK : Keyed nds) (hlen : nds.length ≤ 100)
    (h1 : ∀ nd ∈ nds, nd.k = k → Q (.ref nd.x) m ((x, instObj 186 dx) :: (dx, srtO ks (.ref d) rdy po fi) :: (d, o) :: (fl nds ++ base)))
    (h2 : (∀ nd ∈ nds, nd.k ≠ k) → ∀ nd o', nd.k = k → nd.np = 0 → nd.us = [] → IntD c.w o' (kvsOf (nd :: nds).reverse) → Q (.ref nd.x) m ((x, instObj 186 dx) :: (dx, srtO ks (.ref d) rdy po fi) :: (d, o') :: (fl (nd :: nds) ++ base))) :
    T c m ((x, instObj 186 dx) :: (dx, srtO ks (.ref d) rdy po fi) :: (d, o) :: (fl nds ++ base)) (call (.ref 129) [.ref x, .int (k : Nat) t]) Q X := by
  refine T.def [(Str.ofString "self", some (.ref x)), (Str.ofString "node", some (.int (k : Nat) t)), (Str.ofString "result", none)] G rfl (by kernel_rfl) (by kernel_rfl) (by kernel_rfl) rfl ?_
  intro c' hw G'
  rw [← hw] at hd h2
  wtm_at "c"
  wtm_at "c"
  refine T.test (by kernel_rfl) ?_
  refine T.walrus ?_
  refine T.mcall (by kernel_rfl) (by kernel_rfl) ?_
  refine T.attr (by with_unfolding_all rfl) ?_
  repeat' wtm_at "c"
  refine T.getA (v := .ref d) G' (by wtm_at "mem") (by wtm_at "mem") (srt_ga _) (by kernel_rfl) rfl ?_
  refine T.dgm (by wtm_at "mem") hd ?_
  refine T.cwb ?_
  repeat' wtm_at "c"
  refine T.dget (by wtm_at "mem") hd lo ?_
  refine T.asName ?_
  by_cases hf : ∃ nd ∈ nds, nd.k = k
  · obtain ⟨nd, hn, hk⟩ := hf
    have hv := va_some hK hn
    rw [hk] at hv
    rw [hv]
    show T c' _ _ (storeName _ _ (.ref nd.x)) _ _
    repeat' wtm_at "c"
    refine T.isNone rfl ?_
    repeat' wtm_at "c"
    rw [if_neg (show ¬ (((some (Value.ref nd.x)).getD Value.none == Value.none) = true) from Bool.false_ne_true)]
    repeat' wtm_at "c"
    exact ⟨_, .refl _, h1 nd hn hk⟩
  · have hno : ∀ nd ∈ nds, nd.k ≠ k := fun nd hn hk => hf ⟨nd, hn, hk⟩
    rw [va_none hno]
    show T c' _ _ (storeName _ _ .none) _ _
    repeat' wtm_at "c"
    refine T.isNone rfl ?_
    repeat' wtm_at "c"
    rw [if_pos (by decide)]
    wtm_at "c"
    refine T.assign2 (by with_unfolding_all rfl) (by kernel_rfl) ?_
    repeat' wtm_at "c"
    refine T.global G' (g_Node _) rfl rfl (by kernel_rfl) (by kernel_rfl) ?_
    refine T.cw G' (by kernel_rfl) ?_
    repeat' wtm_at "c"
    refine node_T G' fun nx ndd ns tp => ?_
    refine T.asSub ?_
    refine T.attr (by with_unfolding_all rfl) ?_
    repeat' wtm_at "c"
    refine T.getA (x := x) (dx := dx) (v := .ref d) (od := srtO ks (.ref d) rdy po fi) G' (by wtm_at "mem") (by wtm_at "mem") (srt_ga _) (by kernel_rfl) rfl ?_
    repeat' wtm_at "c"
    refine T.dset (o := o) (kvs := kvsOf nds.reverse) (g := fun o' => (nx, ndObj ndd (.int (k : Nat) t) (.int 0 tp) (.ref ns)) :: (ndd, dictOf [] 0) :: (ns, lst [] 0) :: (x, instObj 186 dx) :: (dx, srtO ks (.ref d) rdy po fi) :: (d, o') :: (fl nds ++ base)) (fun o' => by wtm_at "up") hd (by unfold kvsOf; rw [List.length_map, List.length_reverse]; unfold sizeLine; omega) fun o' hd' => ?_
    refine T.asName ?_
    repeat' wtm_at "c"
    refine ⟨(x, instObj 186 dx) :: (dx, srtO ks (.ref d) rdy po fi) :: (d, o') :: (fl (⟨k, nx, ndd, ns, t, 0, tp, [], 0⟩ :: nds) ++ base), ?_, h2 hno ⟨k, nx, ndd, ns, t, 0, tp, [], 0⟩ o' rfl rfl rfl (by rw [st_new hno ⟨k, nx, ndd, ns, t, 0, tp, [], 0⟩ rfl] at hd'; exact hd')⟩
    rw [fl_cons]
    wtm_at "sub"
end
-- F14
def rep (nds : List Nd) (nd' : Nd) : List Nd := nds.map fun a => if a.k = nd'.k then nd' else a
theorem rep_none {r : List Nd} {nd' : Nd} (h : ∀ a ∈ r, a.k ≠ nd'.k) : rep r nd' = r := by
  unfold rep
  conv => rhs; rw [← List.map_id r]
  exact List.map_congr_left fun a ha => by rw [if_neg (h a ha)]; rfl
theorem Keyed.tail {a : Nd} {r : List Nd} (h : Keyed (a :: r)) : Keyed r := by
  unfold Keyed at h; rw [List.map_cons, List.nodup_cons] at h; exact h.2
theorem Keyed.head {a : Nd} {r : List Nd} (h : Keyed (a :: r)) : ∀ b ∈ r, b.k ≠ a.k := fun b hb e => by
  unfold Keyed at h; rw [List.map_cons, List.nodup_cons] at h; exact h.1 (by rw [← e]; exact List.mem_map_of_mem hb)
theorem Keyed.eq {nds : List Nd} (h : Keyed nds) {a b : Nd} (ha : a ∈ nds) (hb : b ∈ nds) (e : a.k = b.k) : a = b := by
  induction nds with
  | nil => cases ha
  | cons y r ih =>
    rcases List.mem_cons.mp ha with ea | ha <;> rcases List.mem_cons.mp hb with eb | hb
    · rw [ea, eb]
    · exact (h.head b hb (by rw [← e, ea])).elim
    · exact (h.head a ha (by rw [e, eb])).elim
    · exact ih h.tail ha hb
theorem up_np {nds : List Nd} (hK : Keyed nds) {nd : Nd} (hn : nd ∈ nds) (p : Int) (q : Tok) : Up nd.x (ndO nd) (ndO { nd with np := p, tp := q }) (fl nds) (fl (rep nds { nd with np := p, tp := q })) := by
  induction nds with
  | nil => cases hn
  | cons a r ih =>
    rw [fl_cons]
    rcases List.mem_cons.mp hn with rfl | hn
    · have e : rep (nd :: r) { nd with np := p, tp := q } = { nd with np := p, tp := q } :: r := by
        show (if _ then _ else _) :: rep r _ = _
        rw [if_pos rfl, rep_none (nd' := { nd with np := p, tp := q }) fun a ha => hK.head a ha]
      rw [e, fl_cons]
      exact .head
    · have hne : ¬ a.k = nd.k := fun q => hK.head nd hn q.symm
      have e : rep (a :: r) { nd with np := p, tp := q } = a :: rep r { nd with np := p, tp := q } := by
        show (if _ then _ else _) :: rep r _ = _
        rw [if_neg hne]
      rw [e, fl_cons]
      exact .tail (.tail (.tail (ih hK.tail hn)))
theorem up_us {nds : List Nd} (hK : Keyed nds) {nd : Nd} (hn : nd ∈ nds) (p : List Value) (q : Nat) : Up nd.s (lst nd.us nd.e) (lst p q) (fl nds) (fl (rep nds { nd with us := p, e := q })) := by
  induction nds with
  | nil => cases hn
  | cons a r ih =>
    rw [fl_cons]
    rcases List.mem_cons.mp hn with rfl | hn
    · have e : rep (nd :: r) { nd with us := p, e := q } = { nd with us := p, e := q } :: r := by
        show (if _ then _ else _) :: rep r _ = _
        rw [if_pos rfl, rep_none (nd' := { nd with us := p, e := q }) fun a ha => hK.head a ha]
      rw [e, fl_cons]
      exact .tail (.tail .head)
    · have hne : ¬ a.k = nd.k := fun q => hK.head nd hn q.symm
      have e : rep (a :: r) { nd with us := p, e := q } = a :: rep r { nd with us := p, e := q } := by
        show (if _ then _ else _) :: rep r _ = _
        rw [if_neg hne]
      rw [e, fl_cons]
      exact .tail (.tail (.tail (ih hK.tail hn)))
theorem Up.left {a : Addr} {o o' : Obj} {l l' g : Led} (u : Up a o o' l l') : Up a o o' (l ++ g) (l' ++ g) := by
  induction u with
  | head => exact .head
  | tail _ ih => exact .tail ih
theorem rep_kvs {nds : List Nd} (hK : Keyed nds) {nd nd' : Nd} (hn : nd ∈ nds) (h1 : nd'.k = nd.k) (h2 : nd'.x = nd.x) : kvsOf (rep nds nd').reverse = kvsOf nds.reverse := by
  have : kvsOf (rep nds nd') = kvsOf nds := by
    unfold kvsOf rep
    rw [List.map_map]
    refine List.map_congr_left fun a ha => ?_
    show ((((if a.k = nd'.k then nd' else a).k : Nat) : Int), Value.ref (if a.k = nd'.k then nd' else a).x) = _
    by_cases e : a.k = nd'.k
    · have : a = nd := hK.eq ha hn (by rw [e, h1])
      rw [if_pos e, h1, h2, this]
    · rw [if_neg e]
  have h3 : kvsOf (rep nds nd').reverse = (kvsOf (rep nds nd')).reverse := by unfold kvsOf; rw [List.map_reverse]
  have h4 : kvsOf nds.reverse = (kvsOf nds).reverse := by unfold kvsOf; rw [List.map_reverse]
  rw [h3, h4, this]
theorem rep_keyed {nds : List Nd} (hK : Keyed nds) (nd' : Nd) : Keyed (rep nds nd') := by
  unfold Keyed rep at *
  rw [List.map_map]
  have : (nds.map ((fun x => x.k) ∘ fun a => if a.k = nd'.k then nd' else a)) = nds.map (·.k) := List.map_congr_left fun a _ => by
    show (if a.k = nd'.k then nd' else a).k = a.k
    by_cases e : a.k = nd'.k
    · rw [if_pos e, e]
    · rw [if_neg e]
  rw [this]; exact hK
theorem rep_mem {nds : List Nd} {nd' b : Nd} (h : b ∈ rep nds nd') : b = nd' ∨ (b ∈ nds ∧ b.k ≠ nd'.k) := by
  unfold rep at h
  obtain ⟨a, ha, e⟩ := List.mem_map.mp h
  by_cases q : a.k = nd'.k
  · rw [if_pos q] at e; exact .inl e.symm
  · rw [if_neg q] at e; subst e; exact .inr ⟨ha, q⟩
theorem rep_has {nds : List Nd} {nd' : Nd} {k : Nat} (h : ∃ nd ∈ nds, nd.k = k) : ∃ nd ∈ rep nds nd', nd.k = k := by
  obtain ⟨nd, hn, hk⟩ := h
  refine ⟨if nd.k = nd'.k then nd' else nd, List.mem_map_of_mem (f := fun a : Nd => if a.k = nd'.k then nd' else a) hn, ?_⟩
  by_cases q : nd.k = nd'.k
  · rw [if_pos q, ← q, hk]
  · rw [if_neg q, hk]
theorem pig : ∀ (n : Nat) (l : List Nat), l.Nodup → (∀ a ∈ l, a < n) → l.length ≤ n
  | 0, l, _, h => by
    cases l with
    | nil => exact Nat.le_refl _
    | cons a r => exact absurd (h a (.head _)) (Nat.not_lt_zero _)
  | n + 1, l, nd, h => by
    have h1 := pig n (l.erase n) (nd.erase n) fun a ha => by
      have := (nd.mem_erase_iff).mp ha
      have := h a this.2
      omega
    rw [List.length_erase] at h1
    split at h1
    · omega
    · omega
structure Adds (par : Nat → Nat) (n : Nat) (aN aS : List Nat) (nds : List Nd) : Prop where
  keyed : Keyed nds
  bound : ∀ nd ∈ nds, nd.k < n
  np : ∀ nd ∈ nds, nd.np = if nd.k ∈ aN ∧ nd.k ≠ 0 then 1 else 0
  sc : ∀ nd ∈ nds, IntsAre nd.us (nat2 (aS.filter fun j => decide (j ≠ 0 ∧ par j = nd.k)))
  has : ∀ k ∈ aN, ∃ nd ∈ nds, nd.k = k
  has2 : ∀ j ∈ aS, j ≠ 0 → ∃ nd ∈ nds, nd.k = par j
theorem Adds.len {par : Nat → Nat} {n : Nat} {aN aS : List Nat} {nds : List Nd} (A : Adds par n aN aS nds) : nds.length ≤ n := by
  have hk : (nds.map (·.k)).Nodup := A.keyed
  have := pig n _ hk fun a ha => by
    obtain ⟨nd, hn, rfl⟩ := List.mem_map.mp ha
    exact A.bound nd hn
  simpa using this
theorem Adds.ensure {par : Nat → Nat} {n : Nat} {aN aS : List Nat} {nds : List Nd} (A : Adds par n aN aS nds) {nd : Nd} (hno : ∀ a ∈ nds, a.k ≠ nd.k) (hk : nd.k < n) (h1 : nd.np = 0) (h2 : nd.us = []) : Adds par n aN aS (nd :: nds) := by
  refine ⟨?_, ?_, ?_, ?_, ?_, ?_⟩
  · unfold Keyed
    rw [List.map_cons, List.nodup_cons]
    refine ⟨fun q => ?_, A.keyed⟩
    obtain ⟨a, ha, e⟩ := List.mem_map.mp q
    exact hno a ha e
  · intro a ha
    rcases List.mem_cons.mp ha with rfl | ha
    · exact hk
    · exact A.bound a ha
  · intro a ha
    rcases List.mem_cons.mp ha with rfl | ha
    · rw [if_neg]
      · exact h1
      · intro q
        obtain ⟨b, hb, e⟩ := A.has _ q.1
        exact hno b hb e
    · exact A.np a ha
  · intro a ha
    rcases List.mem_cons.mp ha with rfl | ha
    · have : aS.filter (fun j => decide (j ≠ 0 ∧ par j = a.k)) = [] := by
        rw [List.filter_eq_nil_iff]
        intro j hj q
        have q := of_decide_eq_true q
        obtain ⟨b, hb, e⟩ := A.has2 j hj q.1
        exact hno b hb (e.trans q.2)
      rw [this, h2]; exact .nil
    · exact A.sc a ha
  · intro k hk
    obtain ⟨b, hb, e⟩ := A.has k hk
    exact ⟨b, .tail _ hb, e⟩
  · intro k hk h0
    obtain ⟨b, hb, e⟩ := A.has2 k hk h0
    exact ⟨b, .tail _ hb, e⟩
theorem Adds.setnp {par : Nat → Nat} {n : Nat} {aN aS : List Nat} {nds : List Nd} (A : Adds par n aN aS nds) {nd : Nd} (hn : nd ∈ nds) {p : Int} {q : Tok} (hp : p = if nd.k = 0 then 0 else 1) : Adds par n (aN ++ [nd.k]) aS (rep nds { nd with np := p, tp := q }) := by
  refine ⟨rep_keyed A.keyed _, ?_, ?_, ?_, ?_, ?_⟩
  · intro b hb
    rcases rep_mem hb with rfl | ⟨hb, _⟩
    · exact A.bound nd hn
    · exact A.bound b hb
  · intro b hb
    rcases rep_mem hb with rfl | ⟨hb, hne⟩
    · show p = _
      rw [hp]
      by_cases h0 : nd.k = 0
      · simp [h0]
      · simp [h0]
    · rw [A.np b hb]
      have : (b.k ∈ aN ++ [nd.k]) ↔ b.k ∈ aN := by
        rw [List.mem_append, List.mem_singleton]
        exact ⟨fun h => h.elim id fun e => (hne e).elim, .inl⟩
      simp only [this]
  · intro b hb
    rcases rep_mem hb with rfl | ⟨hb, hne⟩
    · exact A.sc nd hn
    · exact A.sc b hb
  · intro k hk
    rcases List.mem_append.mp hk with hk | hk
    · exact rep_has (A.has k hk)
    · rw [List.mem_singleton.mp hk]
      exact rep_has ⟨nd, hn, rfl⟩
  · intro k hk h0
    exact rep_has (A.has2 k hk h0)
theorem Adds.setsc {par : Nat → Nat} {n : Nat} {aN aS : List Nat} {nds : List Nd} (A : Adds par n aN aS nds) {nd : Nd} (hn : nd ∈ nds) {j : Nat} {t : Tok} {e : Nat} (hj : j ≠ 0) (hp : par j = nd.k) : Adds par n aN (aS ++ [j]) (rep nds { nd with us := nd.us ++ [.int (j : Nat) t], e := e }) := by
  refine ⟨rep_keyed A.keyed _, ?_, ?_, ?_, ?_, ?_⟩
  · intro b hb
    rcases rep_mem hb with rfl | ⟨hb, _⟩
    · exact A.bound nd hn
    · exact A.bound b hb
  · intro b hb
    rcases rep_mem hb with rfl | ⟨hb, hne⟩
    · exact A.np nd hn
    · exact A.np b hb
  · intro b hb
    rcases rep_mem hb with rfl | ⟨hb, hne⟩
    · show IntsAre (nd.us ++ [.int (j : Nat) t]) _
      rw [List.filter_append, show List.filter (fun j => decide (j ≠ 0 ∧ par j = nd.k)) [j] = [j] by simp [hj, hp]]
      exact ints_snoc (A.sc nd hn)
    · rw [List.filter_append, show List.filter (fun i => decide (i ≠ 0 ∧ par i = b.k)) [j] = [] by
        simp; intro _ q; exact hne (by show b.k = nd.k; rw [← hp, q]), List.append_nil]
      exact A.sc b hb
  · intro k hk
    exact rep_has (A.has k hk)
  · intro k hk h0
    rcases List.mem_append.mp hk with hk | hk
    · exact rep_has (A.has2 k hk h0)
    · rw [List.mem_singleton.mp hk]
      exact rep_has ⟨nd, hn, hp.symm⟩
theorem Adds.zero {par : Nat → Nat} {n : Nat} {aN aS : List Nat} {nds : List Nd} (A : Adds par n aN aS nds) : Adds par n aN (aS ++ [0]) nds := by
  refine ⟨A.keyed, A.bound, A.np, fun nd hn => ?_, A.has, fun j hj h0 => ?_⟩
  · rw [List.filter_append, show List.filter (fun j => decide (j ≠ 0 ∧ par j = nd.k)) [0] = [] by simp, List.append_nil]
    exact A.sc nd hn
  · rcases List.mem_append.mp hj with hj | hj
    · exact A.has2 j hj h0
    · exact (h0 (List.mem_singleton.mp hj)).elim
-- F15
section
variable {c : Cx} {m : Loc} {led : Led} {X : Value → Loc → Led → Prop} {Q : Value → Loc → Led → Prop} {env : Env}
theorem T.lent {x : Addr} {vs : List Value} (hm : (x, tup vs) ∈ led) (hsz : vs.length < 2 ^ 60) (h : ∀ t, Q (.int (vs.length : Nat) t) m led) : T c m led (call (.builtin "len") [.ref x]) Q X := .mk fun hp tk R =>
  len_tuple (s := c.s hp tk) (items := vs.toArray) ⟨_, R.get hm, rfl, 0, rfl⟩ (by simp; omega) (by have := h (tk + 1); exact post_ok (tk := tk + 1 + 1) R (by simpa using this))
theorem T.imethod {n : Nat} {x C dx f : Addr} {es : List DictEntry} {k : Nat} {name : Str} {pl : Sem Bool} {Q : Value × List Value → Loc → Led → Prop} (G : Gd c n) (h1 : (x, instObj C dx) ∈ led) (h2 : (dx, dictOf es k) ∈ led) (hg : plainGet c.K C name = true)
    (hf : findIn c.K (.ref C) name = some (some (.ref f))) (ht : isFn c.K (.ref f) = true) (hl : getL name es = some none) (h : Q (.ref f, [.ref x]) m led) : T c m led (getMethod (.ref x) name pl) Q X := T.mth G h1 h2 hg hf ht hl h
abbrev Core (x dx d : Addr) (o : Obj) (ks : Nat → Int × Tok) (rdy po fi : Value) (nds : List Nd) (base : Led) : Led := (x, instObj 186 dx) :: (dx, srtO ks (.ref d) rdy po fi) :: (d, o) :: (fl nds ++ base)
theorem gniA_T {n : Nat} (G : Gd c (n + 3)) {x dx d : Addr} {o : Obj} {ks : Nat → Int × Tok} {rdy po fi : Value} {nds : List Nd} {base : Led} {k : Nat} {t : Tok} {par : Nat → Nat} {N : Nat} {aN aS : List Nat} (lo : (d == sysModules) = false) (hd : IntD c.w o (kvsOf nds.reverse)) (A : Adds par N aN aS nds) (hN : N ≤ 100) (hk : k < N)
    (h : ∀ nds1 o1 nd1, nd1 ∈ nds1 → nd1.k = k → Adds par N aN aS nds1 → IntD c.w o1 (kvsOf nds1.reverse) → Q (.ref nd1.x) m (Core x dx d o1 ks rdy po fi nds1 base)) :
    T c m (Core x dx d o ks rdy po fi nds base) (call (.ref 129) [.ref x, .int (k : Nat) t]) Q X := by
  refine gni_T G lo hd A.keyed (Nat.le_trans A.len hN) (fun nd hn hk' => h nds o nd hn hk' A hd) fun hno nd o' h1 h2 h3 hd' => h (nd :: nds) o' nd (.head _) h1 (A.ensure (fun a ha => by rw [h1]; exact hno a ha) (by rw [h1]; exact hk) h2 h3) hd'
theorem perm_core {a b c p : Addr × Obj} {f base : Led} : (a :: b :: c :: (f ++ p :: base)).Perm (p :: a :: b :: c :: (f ++ base)) :=
  ((List.perm_middle.cons c).cons b |>.cons a).trans (((List.Perm.swap p c _).cons b |>.cons a).trans (((List.Perm.swap p b _).cons a).trans (.swap p a _)))
theorem sub_core {a b c p : Addr × Obj} {f base : Led} : Sub (a :: b :: c :: (f ++ base)) (a :: b :: c :: (f ++ p :: base)) := .keep (.keep (.keep (.left (.cons (.refl _)))))
theorem fl_mem {nds : List Nd} {nd : Nd} (h : nd ∈ nds) : (nd.x, ndO nd) ∈ fl nds ∧ (nd.d, dictOf [] 0) ∈ fl nds ∧ (nd.s, lst nd.us nd.e) ∈ fl nds := by
  unfold fl
  exact ⟨List.mem_flatMap.mpr ⟨nd, h, .head _⟩, List.mem_flatMap.mpr ⟨nd, h, .tail _ (.head _)⟩, List.mem_flatMap.mpr ⟨nd, h, .tail _ (.tail _ (.head _))⟩⟩
theorem nd_g90 (w : World) : findIn (kk.heap_1 w.params) (.ref 89) "node" = some (some (.ref 90)) := by kernel_rfl
theorem nd_g91 (w : World) : findIn (kk.heap_1 w.params) (.ref 89) "npredecessors" = some (some (.ref 91)) := by kernel_rfl
theorem nd_g92 (w : World) : findIn (kk.heap_1 w.params) (.ref 89) "successors" = some (some (.ref 92)) := by kernel_rfl
theorem T.getNp {n : Nat} {nd : Nd} {nds : List Nd} {x dx d : Addr} {o : Obj} {ks : Nat → Int × Tok} {rdy po fi : Value} {base pre : Led} {ex : Bool} (G : Gd c n) (hn : nd ∈ nds) (h : Q (.int nd.np nd.tp) m (pre ++ Core x dx d o ks rdy po fi nds base)) : T c m (pre ++ Core x dx d o ks rdy po fi nds base) (getAttr (.ref nd.x) "npredecessors" ex) Q X :=
  T.getS (C := 89) (sl := #[some (.int (nd.k : Nat) nd.t), some (.int nd.np nd.tp), some (.ref nd.s)]) (i := 1) G (List.mem_append_right _ (.tail _ (.tail _ (.tail _ (List.mem_append_left _ (fl_mem hn).1))))) (List.mem_append_right _ (.tail _ (.tail _ (.tail _ (List.mem_append_left _ (fl_mem hn).2.1))))) (by kernel_rfl) (nd_cls _) (nd_g91 _) (by kernel_rfl) (by kernel_rfl) (nd_s91 _) rfl rfl h
theorem T.getSc {n : Nat} {nd : Nd} {nds : List Nd} {x dx d : Addr} {o : Obj} {ks : Nat → Int × Tok} {rdy po fi : Value} {base pre : Led} {ex : Bool} (G : Gd c n) (hn : nd ∈ nds) (h : Q (.ref nd.s) m (pre ++ Core x dx d o ks rdy po fi nds base)) : T c m (pre ++ Core x dx d o ks rdy po fi nds base) (getAttr (.ref nd.x) "successors" ex) Q X :=
  T.getS (C := 89) (sl := #[some (.int (nd.k : Nat) nd.t), some (.int nd.np nd.tp), some (.ref nd.s)]) (i := 2) G (List.mem_append_right _ (.tail _ (.tail _ (.tail _ (List.mem_append_left _ (fl_mem hn).1))))) (List.mem_append_right _ (.tail _ (.tail _ (.tail _ (List.mem_append_left _ (fl_mem hn).2.1))))) (by kernel_rfl) (nd_cls _) (nd_g92 _) (by kernel_rfl) (by kernel_rfl) (nd_s92 _) rfl rfl h
theorem T.getNk {n : Nat} {nd : Nd} {nds : List Nd} {x dx d : Addr} {o : Obj} {ks : Nat → Int × Tok} {rdy po fi : Value} {base pre : Led} {ex : Bool} (G : Gd c n) (hn : nd ∈ nds) (h : Q (.int (nd.k : Nat) nd.t) m (pre ++ Core x dx d o ks rdy po fi nds base)) : T c m (pre ++ Core x dx d o ks rdy po fi nds base) (getAttr (.ref nd.x) "node" ex) Q X :=
  T.getS (C := 89) (sl := #[some (.int (nd.k : Nat) nd.t), some (.int nd.np nd.tp), some (.ref nd.s)]) (i := 0) G (List.mem_append_right _ (.tail _ (.tail _ (.tail _ (List.mem_append_left _ (fl_mem hn).1))))) (List.mem_append_right _ (.tail _ (.tail _ (.tail _ (List.mem_append_left _ (fl_mem hn).2.1))))) (by kernel_rfl) (nd_cls _) (nd_g90 _) (by kernel_rfl) (by kernel_rfl) (nd_s90 _) rfl rfl h
theorem T.setNp {n : Nat} {nd : Nd} {nds : List Nd} {x dx d : Addr} {o : Obj} {ks : Nat → Int × Tok} {rdy po fi : Value} {base pre : Led} {p : Int} {q : Tok} {Q : Unit → Loc → Led → Prop} (G : Gd c n) (hK : Keyed nds) (hn : nd ∈ nds) (h : Q () m (pre ++ Core x dx d o ks rdy po fi (rep nds { nd with np := p, tp := q }) base)) : T c m (pre ++ Core x dx d o ks rdy po fi nds base) (setAttr (.ref nd.x) "npredecessors" (.int p q)) Q X :=
  T.setS (dx := nd.d) (od := dictOf [] 0) (sl := #[some (.int (nd.k : Nat) nd.t), some (.int nd.np nd.tp), some (.ref nd.s)]) (ox' := ndO { nd with np := p, tp := q }) G (List.mem_append_right _ (.tail _ (.tail _ (.tail _ (List.mem_append_left _ (fl_mem hn).2.1))))) (nd_set _) (nd_over _) (nd_np _) (by kernel_rfl) (nd_s91 _) (by decide) (by kernel_rfl) rfl (Up.app (.tail (.tail (.tail (Up.left (up_np hK hn p q)))))) h
theorem add0_T {n : Nat} (G : Gd c (n + 4)) {x dx d : Addr} {o : Obj} {ks : Nat → Int × Tok} {po fi : Value} {nds : List Nd} {base : Led} {t : Tok} {par : Nat → Nat} {N : Nat} {ad : List Nat} (lo : (d == sysModules) = false) (hd : IntD c.w o (kvsOf nds.reverse)) (A : Adds par N ad ad nds) (hN : N ≤ 100) (h0 : 0 < N)
    (h : ∀ o' nds', Adds par N (ad ++ [0]) (ad ++ [0]) nds' → IntD c.w o' (kvsOf nds'.reverse) → Q .none m (Core x dx d o' ks .none po fi nds' base)) :
    T c m (Core x dx d o ks .none po fi nds base) (call (.ref 136) [.ref x, .int 0 t]) Q X := by
  refine T.defV (rest := []) (fun a => [(Str.ofString "self", some (.ref x)), (Str.ofString "node", some (.int 0 t)), (Str.ofString "predecessors", some (.ref a)), (Str.ofString "nodeinfo", none), (Str.ofString "pred", none), (Str.ofString "pred_info", none)]) G rfl (by kernel_rfl) rfl (fun a => rfl) (by show _ ≤ _; simp [sizeLine]) (fun a => by kernel_rfl) rfl ?_
  intro c' pa hw G'
  rw [← hw] at hd h
  refine T.perm (led' := Core x dx d o ks .none po fi nds ((pa, tup []) :: base)) perm_core ?_
  wtm_at "c"
  wtm_at "c"
  refine T.test (by kernel_rfl) ?_
  refine T.attr (by with_unfolding_all rfl) ?_
  repeat' wtm_at "c"
  refine T.getA (x := x) (dx := dx) (v := .none) (od := srtO ks (.ref d) .none po fi) G' (by wtm_at "mem") (by wtm_at "mem") (srt_ga _) (by kernel_rfl) rfl ?_
  repeat' wtm_at "c"
  refine T.isNotNone rfl ?_
  repeat' wtm_at "c"
  rw [if_neg (by decide)]
  repeat' wtm_at "c"
  refine T.mcall (by kernel_rfl) (by kernel_rfl) ?_
  repeat' wtm_at "c"
  refine T.imethod (dx := dx) G' (by wtm_at "mem") (by wtm_at "mem") (by kernel_rfl) (f := 129) (by kernel_rfl) (by kernel_rfl) (by kernel_rfl) ?_
  refine T.cw G' (by kernel_rfl) ?_
  repeat' wtm_at "c"
  refine gniA_T (k := 0) G' lo hd A hN h0 fun nds1 o1 nd1 hn1 hk1 A1 hd1 => ?_
  repeat' wtm_at "c"
  refine T.augA ?_
  repeat' wtm_at "c"
  refine T.getNp (pre := []) G' hn1 ?_
  repeat' wtm_at "c"
  wtm_at "len"
  refine T.lent (x := pa) (vs := []) (by wtm_at "mem2") (by show _ < _; simp) fun t2 => ?_
  refine T.iadd fun t3 => ?_
  refine T.setNp (pre := []) G' A1.keyed hn1 ?_
  have hnp := A1.np nd1 hn1
  rw [if_neg (by rw [hk1]; simp)] at hnp
  have A2 := A1.setnp hn1 (p := nd1.np + (([] : List Value).length : Nat)) (q := t3) (by rw [hnp, if_pos hk1]; rfl)
  have ek : ad ++ [nd1.k] = ad ++ [0] := by rw [hk1]
  rw [ek] at A2
  have hd2 : IntD c'.w o1 (kvsOf (rep nds1 { nd1 with np := nd1.np + (([] : List Value).length : Nat), tp := t3 }).reverse) := Eq.mp (congrArg (IntD c'.w o1) (Eq.symm (rep_kvs A1.keyed hn1 rfl rfl))) hd1
  generalize rep nds1 { nd1 with np := nd1.np + (([] : List Value).length : Nat), tp := t3 } = nds2 at A2 hd2 ⊢
  repeat' wtm_at "c"
  refine T.for (fun _ => rfl) ?_
  repeat' wtm_at "c"
  refine T.iter_tup (x := pa) (vs := []) G'.hdl (fun p hp => ?_) fun I oI S W hS => ?_
  · rw [List.mem_singleton.mp hp]; exact .inl (by wtm_at "mem2")
  refine TC.for W hS (fun i m₁ l₁ => l₁ = Core x dx d o1 ks .none po fi nds2 ((pa, tup []) :: base)) ?_ rfl ?_ ?_
  · rintro i m₁ l₁ rfl p hp
    rw [List.mem_singleton.mp hp]; exact .inl (by wtm_at "mem2")
  · intro i v o m₁ l₁ hi
    exact absurd hi (Nat.not_lt_zero _)
  · rintro m₁ l₁ rfl
    repeat' wtm_at "c"
    exact ⟨_, sub_core, h o1 nds2 A2.zero hd2⟩
theorem add1_T {n : Nat} (G : Gd c (n + 4)) {x dx d : Addr} {o : Obj} {ks : Nat → Int × Tok} {po fi : Value} {nds : List Nd} {base : Led} {t : Tok} {par : Nat → Nat} {N : Nat} {ad : List Nat} (lo : (d == sysModules) = false) (hd : IntD c.w o (kvsOf nds.reverse)) (A : Adds par N ad ad nds) (hN : N ≤ 100) {k : Nat} {tq : Tok} (hk : k < N) (hk0 : k ≠ 0) (hkp : par k < N) (hka : k ∉ ad) (hadl : ad.length ≤ 100)
    (h : ∀ o' nds', Adds par N (ad ++ [k]) (ad ++ [k]) nds' → IntD c.w o' (kvsOf nds'.reverse) → Q .none m (Core x dx d o' ks .none po fi nds' base)) :
    T c m (Core x dx d o ks .none po fi nds base) (call (.ref 136) [.ref x, .int (k : Nat) t, .int (par k : Nat) tq]) Q X := by
  refine T.defV (rest := [.int (par k : Nat) tq]) (fun a => [(Str.ofString "self", some (.ref x)), (Str.ofString "node", some (.int (k : Nat) t)), (Str.ofString "predecessors", some (.ref a)), (Str.ofString "nodeinfo", none), (Str.ofString "pred", none), (Str.ofString "pred_info", none)]) G rfl (by kernel_rfl) rfl (fun a => rfl) (by show _ ≤ _; simp [sizeLine]) (fun a => by kernel_rfl) rfl ?_
  intro c' pa hw G'
  rw [← hw] at hd h
  refine T.perm (led' := Core x dx d o ks .none po fi nds ((pa, tup [.int (par k : Nat) tq]) :: base)) perm_core ?_
  wtm_at "c"
  wtm_at "c"
  refine T.test (by kernel_rfl) ?_
  refine T.attr (by with_unfolding_all rfl) ?_
  repeat' wtm_at "c"
  refine T.getA (x := x) (dx := dx) (v := .none) (od := srtO ks (.ref d) .none po fi) G' (by wtm_at "mem") (by wtm_at "mem") (srt_ga _) (by kernel_rfl) rfl ?_
  repeat' wtm_at "c"
  refine T.isNotNone rfl ?_
  repeat' wtm_at "c"
  rw [if_neg (by decide)]
  repeat' wtm_at "c"
  refine T.mcall (by kernel_rfl) (by kernel_rfl) ?_
  repeat' wtm_at "c"
  refine T.imethod (dx := dx) G' (by wtm_at "mem") (by wtm_at "mem") (by kernel_rfl) (f := 129) (by kernel_rfl) (by kernel_rfl) (by kernel_rfl) ?_
  refine T.cw G' (by kernel_rfl) ?_
  repeat' wtm_at "c"
  refine gniA_T (k := k) G' lo hd A hN hk fun nds1 o1 nd1 hn1 hk1 A1 hd1 => ?_
  repeat' wtm_at "c"
  refine T.augA ?_
  repeat' wtm_at "c"
  refine T.getNp (pre := []) G' hn1 ?_
  repeat' wtm_at "c"
  wtm_at "len"
  refine T.lent (x := pa) (vs := [.int (par k : Nat) tq]) (by wtm_at "mem2") (by show _ < _; simp) fun t2 => ?_
  refine T.iadd fun t3 => ?_
  refine T.setNp (pre := []) G' A1.keyed hn1 ?_
  have hnp := A1.np nd1 hn1
  rw [if_neg (by rw [hk1]; exact fun q => hka q.1)] at hnp
  have A2 := A1.setnp hn1 (p := nd1.np + (([.int (par k : Nat) tq] : List Value).length : Nat)) (q := t3) (by rw [hnp, if_neg (by rw [hk1]; exact hk0)]; rfl)
  have ek : ad ++ [nd1.k] = ad ++ [k] := by rw [hk1]
  rw [ek] at A2
  have hd2 : IntD c'.w o1 (kvsOf (rep nds1 { nd1 with np := nd1.np + (([.int (par k : Nat) tq] : List Value).length : Nat), tp := t3 }).reverse) := Eq.mp (congrArg (IntD c'.w o1) (Eq.symm (rep_kvs A1.keyed hn1 rfl rfl))) hd1
  generalize rep nds1 { nd1 with np := nd1.np + (([.int (par k : Nat) tq] : List Value).length : Nat), tp := t3 } = nds2 at A2 hd2 ⊢
  repeat' wtm_at "c"
  refine T.for (fun _ => rfl) ?_
  repeat' wtm_at "c"
  refine T.iter_tup (x := pa) (vs := [.int (par k : Nat) tq]) G'.hdl (fun p hp => ?_) fun I oI S W hS => ?_
  · rw [List.mem_singleton.mp hp]; exact .inl (by wtm_at "mem2")
  refine TC.for W hS (fun i m₁ l₁ => (i = 0 ∧ ∃ vn, m₁ = [(Str.ofString "self", some (.ref x)), (Str.ofString "node", some (.int (k : Nat) t)), (Str.ofString "predecessors", some (.ref pa)), (Str.ofString "nodeinfo", vn), (Str.ofString "pred", none), (Str.ofString "pred_info", none)] ∧ l₁ = Core x dx d o1 ks .none po fi nds2 ((pa, tup [.int (par k : Nat) tq]) :: base)) ∨
    (i = 1 ∧ ∃ o3 nds3, Adds par N (ad ++ [k]) (ad ++ [k]) nds3 ∧ IntD c'.w o3 (kvsOf nds3.reverse) ∧ l₁ = Core x dx d o3 ks .none po fi nds3 ((pa, tup [.int (par k : Nat) tq]) :: base))) ?_ ?_ ?_ ?_
  · rintro i m₁ l₁ (⟨_, _, _, rfl⟩ | ⟨_, _, _, _, _, rfl⟩) p hp
    · rw [List.mem_singleton.mp hp]; exact .inl (by wtm_at "mem2")
    · rw [List.mem_singleton.mp hp]; exact .inl (by wtm_at "mem2")
  · exact .inl ⟨rfl, _, rfl, rfl⟩
  · rintro i v oi m₁ l₁ hi hv (⟨rfl, vn, rfl, rfl⟩ | ⟨rfl, _⟩)
    · have hv' : Value.int (par k : Nat) tq = v := Option.some.inj hv
      subst hv'
      refine T.perm (led' := Core x dx d o1 ks .none po fi nds2 ((I, oi) :: (pa, tup [.int (par k : Nat) tq]) :: base)) perm_core ?_
      refine T.asName ?_
      repeat' wtm_at "c"
      refine T.mcall (by kernel_rfl) (by kernel_rfl) ?_
      repeat' wtm_at "c"
      refine T.imethod (dx := dx) G' (by wtm_at "mem") (by wtm_at "mem") (by kernel_rfl) (f := 129) (by kernel_rfl) (by kernel_rfl) (by kernel_rfl) ?_
      refine T.cw G' (by kernel_rfl) ?_
      repeat' wtm_at "c"
      refine gniA_T (k := par k) G' lo hd2 A2 hN hkp fun nds3 o3 nd3 hn3 hk3 A3 hd3 => ?_
      repeat' wtm_at "c"
      refine T.mcall (by kernel_rfl) (by kernel_rfl) ?_
      refine T.attr (by with_unfolding_all rfl) ?_
      repeat' wtm_at "c"
      refine T.getSc (pre := []) G' hn3 ?_
      refine T.list_method (vs := nd3.us) (n := nd3.e) (.tail _ (.tail _ (.tail _ (List.mem_append_left _ (fl_mem hn3).2.2)))) F.slot_list_append F.type_list_append ?_
      refine T.cwb ?_
      repeat' wtm_at "c"
      have hul := ints_len (A3.sc nd3 hn3)
      have hfl := List.length_filter_le (fun j => decide (j ≠ 0 ∧ par j = nd3.k)) ad
      refine T.append (n := nd3.e) (.tail (.tail (.tail (Up.left (up_us A3.keyed hn3 (nd3.us ++ [.int (k : Nat) t]) (nd3.e + 1)))))) (by unfold sizeLine; omega) ?_
      repeat' wtm_at "c"
      refine ⟨Core x dx d o3 ks .none po fi (rep nds3 { nd3 with us := nd3.us ++ [.int (k : Nat) t], e := nd3.e + 1 }) ((pa, tup [.int (par k : Nat) tq]) :: base), perm_core.symm, .inr ⟨rfl, o3, _, A3.setsc hn3 hk0 hk3.symm, ?_, rfl⟩⟩
      exact Eq.mp (congrArg (IntD c'.w o3) (Eq.symm (rep_kvs A3.keyed hn3 rfl rfl))) hd3
    · exact absurd hi (Nat.lt_irrefl _)
  · rintro m₁ l₁ (⟨h1, _⟩ | ⟨_, o3, nds3, A3, hd3, rfl⟩)
    · exact absurd h1 (by show ¬ (1 = 0); decide)
    repeat' wtm_at "c"
    exact ⟨_, sub_core, h o3 nds3 A3 hd3⟩
end
-- TU
section
variable {c : Cx} {m : Loc} {led : Led} {X : Value → Loc → Led → Prop} {Q : Value → Loc → Led → Prop} {env : Env}
theorem bool_new_list (l : Addr) (items : Array Value) (hfit : (items.size : Int) < 2 ^ 63) :
    Meets (Builtin.«bool.__new__» ⟨[.type "bool", .ref l], []⟩) (fun _ R s => s.heap.IsList l items ∧ R (.ok (.ret (.bool (!items.isEmpty)))) { s with toks := s.toks + 1 + 1 }) :=
  .of_wp fun prog w A R s h => by
    obtain ⟨hp, g, d, tk, os⟩ := s
    obtain ⟨hl, hs⟩ := h
    have f1 := F.conv_sub_bool
    repeat (any_goals (first | assumption | with_reducible apply wpAny_truthy_list hl hfit | wp_step))
    all_goals first | exact ⟨_, rfl, hs⟩ | skip
theorem T.boolL {l : Addr} {vs : List Value} {e : Nat} (hm : (l, lst vs e) ∈ led) (hsz : vs.length < 2 ^ 60) (h : Q (.bool (!vs.isEmpty)) m led) : T c m led (call (.type "bool") [.ref l]) Q X := .mk fun hp tk R =>
  call_bool_1 (bool_new_list l vs.toArray (by simp; omega)) ⟨R.isList hm, ⟨PySem.typeIs_bool _ _, by have := post_ok (tk := tk + 2) R h; simpa using this⟩⟩
theorem T.tupL {l : Addr} {vs : List Value} {e : Nat} (hm : (l, lst vs e) ∈ led) (hsz : vs.length ≤ sizeLine) (h : ∀ a, Q (.ref a) m ((a, tup vs) :: led)) : T c m led (call (.type "tuple") [.ref l]) Q X := .mk fun hp tk R =>
  call_tuple_list (s := c.s hp tk) (R.isList hm) (fun h' hk => post_ok ((R.all hk).push (tup vs) rfl) (h _)) (by simpa using hsz)
theorem T.clear {l : Addr} {vs : List Value} {e : Nat} {led' : Led} (u : Up l (lst vs e) (lst [] (e + 1)) led led') (hne : vs ≠ []) (hsz : vs.length ≤ sizeLine) (h : Q .none m led') : T c m led (call (.builtin "list.clear") [.ref l]) Q X := .mk fun hp tk R =>
  kl_clear (s := c.s hp tk) (full_fr R) (full_news R) (u.upd R.nd) (by simpa using hne) (by simpa using hsz) fun h' F' N' => ⟨m, led', h', tk, rfl, R.of_full F' N' (by rw [u.keys]; exact R.nd), h⟩
theorem T.boolOr {e₁ e₂ : Expr} {rest : List Expr} {pos : Pos} (h : T c m led (eval e₁ env) (fun v m₁ l₁ => T c m₁ l₁ (truthy v) (fun b m₂ l₂ => if b = true then Q v m₂ l₂ else T c m₂ l₂ (eval (.BoolOp .Or (e₂ :: rest) pos) env) Q X) X) X) : T c m led (eval (.BoolOp .Or (e₁ :: e₂ :: rest) pos) env) Q X := .mk fun hp tk R =>
  BoolOp_or (then_wp (h.run hp tk R) fun _ _ _ _ _ R₁ q₁ => then_wp (q₁.run _ _ R₁) fun b _ _ _ _ R₂ q₂ => by cases b; exact q₂.run _ _ R₂; exact post_ok R₂ q₂)
theorem T.bool1 {op : BoolOp} {e : Expr} {pos : Pos} (h : T c m led (eval e env) Q X) : T c m led (eval (.BoolOp op [e] pos) env) Q X := .mk fun hp tk R => BoolOp_one (h.run hp tk R)
end
-- F16
structure Stt (dom : List Nat) (np : Nat → Int) (sc : Nat → List Nat) (nds : List Nd) : Prop where
  keys : nds.map (·.k) = dom
  nodup : dom.Nodup
  np : ∀ nd ∈ nds, nd.np = np nd.k
  sc : ∀ nd ∈ nds, IntsAre nd.us (nat2 (sc nd.k))
theorem Stt.keyed {dom : List Nat} {np : Nat → Int} {sc : Nat → List Nat} {nds : List Nd} (S : Stt dom np sc nds) : Keyed nds := by unfold Keyed; rw [S.keys]; exact S.nodup
theorem Stt.get {dom : List Nat} {np : Nat → Int} {sc : Nat → List Nat} {nds : List Nd} (S : Stt dom np sc nds) {k : Nat} (h : k ∈ dom) : ∃ nd ∈ nds, nd.k = k := by
  rw [← S.keys] at h
  obtain ⟨nd, hn, e⟩ := List.mem_map.mp h
  exact ⟨nd, hn, e⟩
theorem rep_keys (nds : List Nd) (nd' : Nd) : (rep nds nd').map (·.k) = nds.map (·.k) := by
  unfold rep
  rw [List.map_map]
  refine List.map_congr_left fun a _ => ?_
  show (if a.k = nd'.k then nd' else a).k = a.k
  by_cases e : a.k = nd'.k
  · rw [if_pos e, e]
  · rw [if_neg e]
theorem Stt.setnp {dom : List Nat} {np : Nat → Int} {sc : Nat → List Nat} {nds : List Nd} (S : Stt dom np sc nds) {nd : Nd} (hn : nd ∈ nds) (p : Int) (q : Tok) : Stt dom (fun k => if k = nd.k then p else np k) sc (rep nds { nd with np := p, tp := q }) := by
  refine ⟨by rw [rep_keys]; exact S.keys, S.nodup, fun b hb => ?_, fun b hb => ?_⟩
  · rcases rep_mem hb with rfl | ⟨hb, hne⟩
    · show p = if nd.k = nd.k then p else _
      rw [if_pos rfl]
    · show b.np = if b.k = nd.k then p else np b.k
      rw [if_neg hne]; exact S.np b hb
  · rcases rep_mem hb with rfl | ⟨hb, hne⟩
    · exact S.sc nd hn
    · exact S.sc b hb
theorem Stt.ext {dom : List Nat} {np np' : Nat → Int} {sc : Nat → List Nat} {nds : List Nd} (S : Stt dom np sc nds) (h : ∀ k ∈ dom, np' k = np k) : Stt dom np' sc nds :=
  ⟨S.keys, S.nodup, fun nd hn => by rw [h _ (by rw [← S.keys]; exact List.mem_map_of_mem hn)]; exact S.np nd hn, S.sc⟩
theorem IntD.rep {w : World} {o : Obj} {nds : List Nd} {nd : Nd} {p : Int} {q : Tok} (h : IntD w o (kvsOf nds.reverse)) (hK : Keyed nds) (hn : nd ∈ nds) : IntD w o (kvsOf (rep nds { nd with np := p, tp := q }).reverse) :=
  Eq.mp (congrArg (IntD w o) (Eq.symm (rep_kvs hK hn rfl rfl))) h
theorem int_of {K : Frag} {x : Str} {i : Int} (h : (match nsIn K mainGlobals x with | some (some (.int j _)) => j == i | _ => false) = true) : ∃ t, nsIn K mainGlobals x = some (some (.int i t)) := by
  split at h
  · rename_i j t e
    rw [beq_iff_eq.mp h] at e
    exact ⟨t, e⟩
  · cases h
theorem g_OUT (w : World) : ∃ t, nsIn (kk.heap_1 w.params) mainGlobals (Str.ofString "_NODE_OUT") = some (some (.int (-1) t)) := int_of (by kernel_rfl)
theorem g_DONE (w : World) : ∃ t, nsIn (kk.heap_1 w.params) mainGlobals (Str.ofString "_NODE_DONE") = some (some (.int (-2) t)) := int_of (by kernel_rfl)
theorem g_no_tuple (w : World) : nsIn (kk.heap_1 w.params) mainGlobals (Str.ofString "tuple") = some none := by kernel_rfl
theorem g_no_bool (w : World) : nsIn (kk.heap_1 w.params) mainGlobals (Str.ofString "bool") = some none := by kernel_rfl
theorem b_tuple : bootBuiltins (Str.ofString "tuple") = some (.type "tuple") := by boot_by_name
theorem b_bool : bootBuiltins (Str.ofString "bool") = some (.type "bool") := by boot_by_name
section
variable {c : Cx} {m : Loc} {led : Led} {X : Value → Loc → Led → Prop} {Q : Value → Loc → Led → Prop} {env : Env}
theorem active_T {n : Nat} (G : Gd c (n + 1)) {x dx d rl : Addr} {o : Obj} {ks : Nat → Int × Tok} {po fi : Int} {tp tf : Tok} {nds : List Nd} {base : Led} {us : List Value} {e : Nat} (hsz : us.length < 1000)
    (h : Q (.bool (decide (fi < po) || !us.isEmpty)) m (Core x dx d o ks (.ref rl) (.int po tp) (.int fi tf) nds ((rl, lst us e) :: base))) :
    T c m (Core x dx d o ks (.ref rl) (.int po tp) (.int fi tf) nds ((rl, lst us e) :: base)) (call (.ref 155) [.ref x]) Q X := by
  refine T.def [(Str.ofString "self", some (.ref x))] G rfl (by kernel_rfl) (by kernel_rfl) (by kernel_rfl) rfl ?_
  intro c' hw G'
  wtm_at "c"
  wtm_at "c"
  refine T.test (by kernel_rfl) ?_
  refine T.attr (by with_unfolding_all rfl) ?_
  repeat' wtm_at "c"
  refine T.getA (x := x) (dx := dx) (v := .ref rl) (od := srtO ks (.ref d) (.ref rl) (.int po tp) (.int fi tf)) G' (by wtm_at "mem") (by wtm_at "mem") (srt_ga _) (by kernel_rfl) rfl ?_
  repeat' wtm_at "c"
  refine T.isNone rfl ?_
  repeat' wtm_at "c"
  rw [if_neg (show ¬ ((Value.ref rl == Value.none) = true) from Bool.false_ne_true)]
  repeat' wtm_at "c"
  refine T.boolOr ?_
  refine T.compare (by kernel_rfl) ?_
  refine T.attr (by with_unfolding_all rfl) ?_
  repeat' wtm_at "c"
  refine T.getA (x := x) (dx := dx) (v := .int fi tf) (od := srtO ks (.ref d) (.ref rl) (.int po tp) (.int fi tf)) G' (by wtm_at "mem") (by wtm_at "mem") (srt_ga _) (by kernel_rfl) rfl ?_
  refine T.attr (by with_unfolding_all rfl) ?_
  repeat' wtm_at "c"
  refine T.getA (x := x) (dx := dx) (v := .int po tp) (od := srtO ks (.ref d) (.ref rl) (.int po tp) (.int fi tf)) G' (by wtm_at "mem") (by wtm_at "mem") (srt_ga _) (by kernel_rfl) rfl ?_
  repeat' wtm_at "c"
  by_cases hlt : fi < po
  · rw [decide_eq_true hlt] at h ⊢
    rw [if_pos rfl]
    repeat wtm_at "un"
    exact ⟨_, .refl _, h⟩
  · rw [decide_eq_false hlt] at h ⊢
    rw [if_neg Bool.false_ne_true]
    refine T.bool1 ?_
    repeat' wtm_at "c"
    refine T.bltn G' (g_no_bool _) b_bool (by decide) rfl rfl rfl (by kernel_rfl) (by kernel_rfl) ?_
    refine T.cwt ?_
    repeat' wtm_at "c"
    refine T.attr (by with_unfolding_all rfl) ?_
    repeat' wtm_at "c"
    refine T.getA (x := x) (dx := dx) (v := .ref rl) (od := srtO ks (.ref d) (.ref rl) (.int po tp) (.int fi tf)) G' (by wtm_at "mem") (by wtm_at "mem") (srt_ga _) (by kernel_rfl) rfl ?_
    repeat' wtm_at "c"
    refine T.boolL (vs := us) (e := e) (by wtm_at "mem2") (by omega) ?_
    repeat wtm_at "un"
    exact ⟨_, .refl _, h⟩
theorem get_ready_T {n : Nat} (G : Gd c (n + 1)) {x dx d rl : Addr} {o : Obj} {ks : Nat → Int × Tok} {po : Int} {fi : Value} {tp : Tok} {nds : List Nd} {base : Led} {us : List Value} {e : Nat} {dom : List Nat} {np : Nat → Int} {sc : Nat → List Nat} {rs : List Nat} (S : Stt dom np sc nds) (hd : IntD c.w o (kvsOf nds.reverse)) (hu : IntsAre us (nat2 rs)) (hin : ∀ r ∈ rs, r ∈ dom) (hne : rs ≠ []) (hsz : rs.length < 1000)
    (h : ∀ a t' nds' e', Stt dom (fun k => if k ∈ rs then -1 else np k) sc nds' → IntD c.w o (kvsOf nds'.reverse) → Q (.ref a) m (Core x dx d o ks (.ref rl) (.int (po + rs.length) t') fi nds' ((rl, lst [] e') :: (a, tup us) :: base))) :
    T c m (Core x dx d o ks (.ref rl) (.int po tp) fi nds ((rl, lst us e) :: base)) (call (.ref 148) [.ref x]) Q X := by
  have hul := ints_len hu
  refine T.def [(Str.ofString "self", some (.ref x)), (Str.ofString "result", none), (Str.ofString "n2i", none), (Str.ofString "node", none)] G rfl (by kernel_rfl) (by kernel_rfl) (by kernel_rfl) rfl ?_
  intro c' hw G'
  rw [← hw] at hd h
  wtm_at "c"
  wtm_at "c"
  refine T.test (by kernel_rfl) ?_
  refine T.attr (by with_unfolding_all rfl) ?_
  repeat' wtm_at "c"
  refine T.getA (x := x) (dx := dx) (v := .ref rl) (od := srtO ks (.ref d) (.ref rl) (.int po tp) fi) G' (by wtm_at "mem") (by wtm_at "mem") (srt_ga _) (by kernel_rfl) rfl ?_
  repeat' wtm_at "c"
  refine T.isNone rfl ?_
  repeat' wtm_at "c"
  rw [if_neg (show ¬ ((Value.ref rl == Value.none) = true) from Bool.false_ne_true)]
  repeat' wtm_at "c"
  refine T.bltn G' (g_no_tuple _) b_tuple (by decide) rfl rfl rfl (by kernel_rfl) (by kernel_rfl) ?_
  refine T.cwt ?_
  repeat' wtm_at "c"
  refine T.attr (by with_unfolding_all rfl) ?_
  repeat' wtm_at "c"
  refine T.getA (x := x) (dx := dx) (v := .ref rl) (od := srtO ks (.ref d) (.ref rl) (.int po tp) fi) G' (by wtm_at "mem") (by wtm_at "mem") (srt_ga _) (by kernel_rfl) rfl ?_
  repeat' wtm_at "c"
  refine T.tupL (vs := us) (e := e) (by wtm_at "mem2") (by unfold sizeLine; omega) fun ta => ?_
  refine T.perm (led' := Core x dx d o ks (.ref rl) (.int po tp) fi nds ((ta, tup us) :: (rl, lst us e) :: base)) perm_core ?_
  repeat' wtm_at "c"
  refine T.attr (by with_unfolding_all rfl) ?_
  repeat' wtm_at "c"
  refine T.getA (x := x) (dx := dx) (v := .ref d) (od := srtO ks (.ref d) (.ref rl) (.int po tp) fi) G' (by wtm_at "mem") (by wtm_at "mem") (srt_ga _) (by kernel_rfl) rfl ?_
  repeat' wtm_at "c"
  refine T.for (fun _ => rfl) ?_
  repeat' wtm_at "c"
  refine T.iter_tup (x := ta) (vs := us) G'.hdl (fun p hp => ?_) fun I oI S0 W hS => ?_
  · rw [List.mem_singleton.mp hp]; exact .inl (by wtm_at "mem2")
  refine TC.for W hS (fun i m₁ l₁ => ∃ vn nds1, m₁ = [(Str.ofString "self", some (.ref x)), (Str.ofString "result", some (.ref ta)), (Str.ofString "n2i", some (.ref d)), (Str.ofString "node", vn)] ∧ Stt dom (fun k => if k ∈ rs.take i then -1 else np k) sc nds1 ∧ IntD c'.w o (kvsOf nds1.reverse) ∧ l₁ = Core x dx d o ks (.ref rl) (.int po tp) fi nds1 ((ta, tup us) :: (rl, lst us e) :: base)) ?_ ?_ ?_ ?_
  · rintro i m₁ l₁ ⟨_, _, _, _, _, rfl⟩ p hp
    rw [List.mem_singleton.mp hp]; exact .inl (by wtm_at "mem2")
  · exact ⟨_, nds, rfl, S.ext (fun k _ => by simp), hd, rfl⟩
  · rintro i v oi m₁ l₁ hi hv ⟨vn, nds1, rfl, S1, hd1, rfl⟩
    have hir : i < rs.length := by omega
    obtain ⟨tv, hat⟩ := ints_at hu hir
    rw [hv] at hat; cases hat
    have hgd : rs[i]? = some (rs.getD i 0) := by rw [List.getD_eq_getElem?_getD, List.getElem?_eq_getElem hir]; rfl
    generalize rs.getD i 0 = r at hgd hv ⊢
    obtain ⟨nd, hn, hk⟩ := S1.get (hin r (List.mem_of_getElem? hgd))
    refine T.perm (led' := Core x dx d o ks (.ref rl) (.int po tp) fi nds1 ((I, oi) :: (ta, tup us) :: (rl, lst us e) :: base)) perm_core ?_
    refine T.asName ?_
    repeat' wtm_at "c"
    refine T.assignA (by kernel_rfl) ?_
    obtain ⟨tout, hout⟩ := g_OUT c'.w
    refine T.global G' hout rfl rfl (by kernel_rfl) (by kernel_rfl) ?_
    repeat' wtm_at "c"
    have hva := va_some S1.keyed hn
    rw [hk] at hva
    refine T.ditem (o := o) (kvs := kvsOf nds1.reverse) (by wtm_at "mem") hd1 hva (by with_unfolding_all rfl) (by intro _; with_unfolding_all rfl) ?_
    refine T.setNp (pre := []) G' S1.keyed hn ?_
    repeat' wtm_at "c"
    have S2 := (S1.setnp hn (-1) tout).ext (np' := fun k => if k ∈ rs.take (i + 1) then -1 else np k) fun k _ => by
      rw [take_snoc hgd]
      by_cases hkr : k = r
      · subst hkr; simp [hk]
      · simp [hkr, hk]
    exact ⟨_, perm_core.symm, _, _, rfl, S2, hd1.rep S1.keyed hn, rfl⟩
  · rintro m₁ l₁ ⟨vn, nds1, rfl, S1, hd1, rfl⟩
    rw [hul, List.take_length] at S1
    repeat' wtm_at "c"
    refine T.mcall (by kernel_rfl) (by kernel_rfl) ?_
    refine T.attr (by with_unfolding_all rfl) ?_
    repeat' wtm_at "c"
    refine T.getA (x := x) (dx := dx) (v := .ref rl) (od := srtO ks (.ref d) (.ref rl) (.int po tp) fi) G' (by wtm_at "mem") (by wtm_at "mem") (srt_ga _) (by kernel_rfl) rfl ?_
    refine T.list_method (vs := us) (n := e) (by wtm_at "mem2") F.slot_list_clear F.type_list_clear ?_
    refine T.cwb ?_
    repeat' wtm_at "c"
    refine T.clear (vs := us) (e := e) (led' := Core x dx d o ks (.ref rl) (.int po tp) fi nds1 ((ta, tup us) :: (rl, lst [] (e + 1)) :: base)) (by wtm_at "up2") (fun q => hne (by rw [q] at hul; exact List.eq_nil_of_length_eq_zero hul.symm)) (by unfold sizeLine; omega) ?_
    repeat' wtm_at "c"
    refine T.augA ?_
    repeat' wtm_at "c"
    refine T.getA (x := x) (dx := dx) (v := .int po tp) (od := srtO ks (.ref d) (.ref rl) (.int po tp) fi) G' (by wtm_at "mem") (by wtm_at "mem") (srt_ga _) (by kernel_rfl) rfl ?_
    repeat' wtm_at "c"
    wtm_at "len"
    refine T.lent (x := ta) (vs := us) (by wtm_at "mem2") (by omega) fun t2 => ?_
    refine T.iadd fun t3 => ?_
    refine T.setA (fun hs tk => [ent1 (ks 0) "_node2info" (.ref d), ent1 (ks 1) "_ready_nodes" (.ref rl), ent1 (ks 2) "_npassedout" (.int (po + us.length) t3), ent1 (ks 3) "_nfinished" fi]) 4 G' (by wtm_at "mem") (srt_set _) (srt_over _) (by kernel_rfl) (srt_dict _) (by kernel_rfl) (fun _ _ => by kernel_rfl) (fun _ _ => by show 4 ≤ 1000; decide) (fun tk => by wtm_at "up") fun _ => ?_
    repeat' wtm_at "c"
    rw [hul]
    refine ⟨_, ?_, h ta t3 nds1 (e + 1) S1 hd1⟩
    exact .keep (.keep (.keep (.left ⟨_, .swap _ _ _, .refl _⟩)))
end
-- F17
theorem Up.stay {a : Addr} {o o' : Obj} {l l' : Led} (u : Up a o o' l l') {p : Addr × Obj} (hp : p ∈ l) (hne : p ≠ (a, o)) : p ∈ l' := by
  induction u with
  | head =>
    rcases List.mem_cons.mp hp with h | h
    · exact (hne h).elim
    · exact .tail _ h
  | tail _ ih =>
    rcases List.mem_cons.mp hp with h | h
    · rw [h]; exact .head _
    · exact .tail _ (ih h)
theorem lst_stay {nds : List Nd} (hK : Keyed nds) {nd : Nd} (hn : nd ∈ nds) {p : Int} {q : Tok} {a : Addr} {vs : List Value} {e : Nat} (h : (a, lst vs e) ∈ fl nds) : (a, lst vs e) ∈ fl (rep nds { nd with np := p, tp := q }) :=
  (up_np hK hn p q).stay h fun q => by have := congrArg (fun z => z.2.cls) q; cases this
def dStep1 (st : (Nat → Int) × List Nat) (s : Nat) : (Nat → Int) × List Nat := ((fun k => if k = s then st.1 s - 1 else st.1 k), if st.1 s - 1 = 0 then st.2 ++ [s] else st.2)
def dStep (sc : Nat → List Nat) (st : (Nat → Int) × List Nat) (r : Nat) : (Nat → Int) × List Nat := (sc r).foldl dStep1 ((fun k => if k = r then -2 else st.1 k), st.2)
theorem dStep1_len : ∀ (l : List Nat) (st : (Nat → Int) × List Nat), (l.foldl dStep1 st).2.length ≤ st.2.length + l.length
  | [], st => by simp
  | s :: r, st => by
    rw [List.foldl_cons]
    have := dStep1_len r (dStep1 st s)
    have h2 : (dStep1 st s).2.length ≤ st.2.length + 1 := by
      unfold dStep1
      dsimp only
      split
      · simp
      · omega
    rw [List.length_cons]
    omega
theorem dStep_len (sc : Nat → List Nat) : ∀ (l : List Nat) (st : (Nat → Int) × List Nat), (l.foldl (dStep sc) st).2.length ≤ st.2.length + (l.map fun r => (sc r).length).sum
  | [], st => by simp
  | s :: r, st => by
    rw [List.foldl_cons, List.map_cons, List.sum_cons]
    have := dStep_len sc r (dStep sc st s)
    have h2 : (dStep sc st s).2.length ≤ st.2.length + (sc s).length := dStep1_len _ _
    omega
theorem sum_take (f : Nat → Nat) : ∀ (l : List Nat) (i : Nat), ((l.take i).map f).sum ≤ (l.map f).sum
  | [], i => by simp
  | s :: r, 0 => by simp
  | s :: r, i + 1 => by
    rw [List.take_succ_cons, List.map_cons, List.sum_cons, List.map_cons, List.sum_cons]
    have := sum_take f r i
    omega
theorem sum_at (f : Nat → Nat) {l : List Nat} {i r : Nat} (h : l[i]? = some r) : ((l.take i).map f).sum + f r ≤ (l.map f).sum := by
  have := sum_take f l (i + 1)
  rw [take_snoc h, List.map_append, List.sum_append] at this
  simpa using this
section
variable {c : Cx} {m : Loc} {led : Led} {X : Value → Loc → Led → Prop} {Q : Value → Loc → Led → Prop} {env : Env}
theorem T.isub {a b : Int} {t u : Tok} (h : ∀ t, Q (.int (a - b) t) m led) : T c m led (inplaceOp .Sub (.int a t) (.int b u)) Q X := .mk fun hp tk R => isub_int (post_ok (tk := tk + 1) R (h _))
end
-- TV
abbrev mwO (it : Addr) : Obj := { cls := .type "method-wrapper", data := .fields #[.builtin "list_iterator.__next__", .ref it] }
abbrev liO (l : Addr) (i : Nat) : Obj := { cls := .type "list_iterator", data := .fields #[.ref l, .int (i : Nat) 0] }
theorem mw_check (it : Addr) : checkBoundCall "list_iterator.__next__" ⟨[.ref it], []⟩ = Pure.pure () := by first | rfl | kernel_rfl
section
variable {prog : Program} {w : World} {A : Around} {E : Value → Shared → Prop} {s : Shared}
theorem mw_call {b it : Addr} {Q : Value → Shared → Prop} (ho : s.heap.get? b = some (mwO it))
    (h : wpAny (model prog w) A.in1 (Builtin.«list_iterator.__next__» ⟨[.ref it], []⟩) (fun fin s' => ∃ v, fin = .done (.ret v) ∧ Q v s') E s) : wpAny (model prog w) A (call (.ref b) []) Q E s := by
  refine wpAny_call (codeAny_of_tree ?_)
  show wpAny _ A.in1 (callAny (.ref b) ⟨[], []⟩) _ _ s
  simp only [callAny]
  refine wpAny_bind (wpAny_load ho ?_)
  simp only [show (Value.type "method-wrapper" == Value.type "method" || Value.type "method-wrapper" == Value.type "builtin_function_or_method" || Value.type "method-wrapper" == Value.type "method-wrapper") = true by decide, if_true]
  show wpAny _ A.in1 (if (Value.type "method-wrapper" != Value.type "method") = true then (do checkBoundCall "list_iterator.__next__" ⟨[.ref it], []⟩; again (.builtin "list_iterator.__next__" ⟨[.ref it], []⟩)) else _) _ _ s
  rw [if_pos (by decide)]
  refine wpAny_bind (wpAny_of_eq (a := ()) (mw_check it) ?_)
  refine wpAny_pure ?_
  refine ⟨Code.quiet_builtin _ (by decide +kernel), codeAny_builtin PySem.entry_listiter_next (wpAny_mono h (fun fin s' ⟨v, e, q⟩ => ?_) fun _ _ x => x)⟩
  subst e
  exact q
theorem li_item {it l : Addr} {i : Nat} {vs : List Value} {e : Nat} {x : Value} {P : Fin → Shared → Prop} (ho : s.heap.get? it = some (liO l i)) (hl : s.heap.get? l = some (lst vs e)) (hx : vs[i]? = some x)
    (h : ∀ h', h'.get? it = some (liO l (i + 1)) → Heap.SameBut it s.heap h' → P (.done (.ret x)) { s with heap := h' }) : wpAny (model prog w) A (Builtin.«list_iterator.__next__» ⟨[.ref it], []⟩) P E s := by
  show wpAny _ _ (field (.ref it) 0 >>= _) _ _ s
  refine wpAny_bind (wpAny_field ho rfl (x := .ref l) rfl ?_)
  show wpAny _ _ (if (Value.ref l == Value.none) = true then _ else _) _ _ s
  rw [if_neg (show ¬ ((Value.ref l == Value.none) = true) from Bool.false_ne_true)]
  show wpAny _ _ (field (.ref it) 1 >>= _) _ _ s
  refine wpAny_bind (wpAny_field ho rfl (x := .int i 0) rfl ?_)
  show wpAny _ _ (seqItems? (.ref l) >>= _) _ _ s
  refine wpAny_bind (wpAny_seqItems hl rfl ?_)
  have hx' : vs.toArray[i]? = some x := by simpa using hx
  simp only [Int.toNat_natCast, hx']
  refine wpAny_bind (wpAny_setField ho rfl (by simp) (wpAny_pure (h _ ?_ (Heap.SameBut.update ..))))
  rw [Heap.get?_update_self _ ho rfl]
  rfl
theorem li_end {it l : Addr} {i : Nat} {vs : List Value} {e : Nat} {P : Fin → Shared → Prop} (hh : A.handled = none) (ho : s.heap.get? it = some (liO l i)) (hl : s.heap.get? l = some (lst vs e)) (hx : vs[i]? = none)
    (h : ∀ h' ea oe xs a0, (∀ b o, b ≠ it → s.heap.get? b = some o → h'.get? b = some o) → s.heap.objs.size < ea → h'.get? ea = some oe → oe.cls = .type "StopIteration" → oe.data = .fields xs → xs[1]? = some .none → xs[0]? = some a0 → E (.ref ea) { s with heap := h' }) : wpAny (model prog w) A (Builtin.«list_iterator.__next__» ⟨[.ref it], []⟩) P E s := by
  show wpAny _ _ (field (.ref it) 0 >>= _) _ _ s
  refine wpAny_bind (wpAny_field ho rfl (x := .ref l) rfl ?_)
  show wpAny _ _ (if (Value.ref l == Value.none) = true then _ else _) _ _ s
  rw [if_neg (show ¬ ((Value.ref l == Value.none) = true) from Bool.false_ne_true)]
  show wpAny _ _ (field (.ref it) 1 >>= _) _ _ s
  refine wpAny_bind (wpAny_field ho rfl (x := .int i 0) rfl ?_)
  show wpAny _ _ (seqItems? (.ref l) >>= _) _ _ s
  refine wpAny_bind (wpAny_seqItems hl rfl ?_)
  have hx' : vs.toArray[i]? = none := by simpa using hx
  simp only [Int.toNat_natCast, hx']
  refine wpAny_bind (wpAny_rule (wpAny_bind (wpAny_setField ho rfl (by simp) ?_)))
  show wpAny _ _ (newExc (.type "StopIteration") [] >>= _) _ _ _
  refine wpAny_bind ?_
  simp only [newExc, newTuple]
  refine wpAny_bind (wpAny_newObj_type ?_ (by size_fits))
  refine wpAny_bind (m := firstArgMember _ _) (wpAny_of_eq (a := Value.none) (by first | rfl | (simp only [firstArgMember]; rfl)) ?_)
  refine wpAny_newObj_type ?_ (by size_fits)
  simp only [raiseNew]
  refine wpAny_bind (wpAny_handled ?_)
  rw [hh]
  refine wpAny_bind (wpAny_pure (wpAny_throw ?_))
  refine h _ _ _ _ _ (fun b o hb e => ?_) ?_ (Heap.get?_push_size _ rfl) rfl rfl rfl rfl
  · exact Heap.get?_push_of_some _ (Heap.get?_push_of_some _ ((Heap.SameBut.update ..).extBut b o hb e))
  · rw [Heap.size_push, Heap.size_after_update]; exact Nat.lt_succ_self _
end
-- TW
namespace MW
theorem slot_ga : Slot "list_iterator" "__getattribute__" "object.__getattribute__" :=
  .of (owner := "object") (n := "__getattribute__") (by rw [typeLookup_type, builtinLookup_eq_fast]; kernel_rfl) (by decide +kernel) (by decide +kernel) (by decide +kernel)
    (by first | exact .inl (by decide +kernel) | exact .inr (by decide +kernel)) (by rw [isSubtype_type]; kernel_rfl)
theorem slot_wget : Slot "wrapper_descriptor" "__get__" "wrapper_descriptor.__get__" :=
  .of (owner := "wrapper_descriptor") (n := "__get__") (by rw [typeLookup_type, builtinLookup_eq_fast]; kernel_rfl) (by decide +kernel) (by decide +kernel) (by decide +kernel)
    (by first | exact .inl (by decide +kernel) | exact .inr (by decide +kernel)) (by rw [isSubtype_type]; kernel_rfl)
theorem lk_set : typeLookup (.type "wrapper_descriptor") "__set__" = Pure.pure none := by rw [typeLookup_type, builtinLookup_eq_fast]; kernel_rfl
theorem lk_del : typeLookup (.type "wrapper_descriptor") "__delete__" = Pure.pure none := by rw [typeLookup_type, builtinLookup_eq_fast]; kernel_rfl
theorem ty_next : typeOf (.builtin "list_iterator.__next__") = Pure.pure (.type "wrapper_descriptor") := by show builtinType _ = _; rw [builtinType_eq_fast]; kernel_rfl
theorem entry_oga : entryFor table "object.__getattribute__" = some Builtin.«object.__getattribute__» := entryFor_of_tree (by kernel_rfl)
theorem entry_wget : entryFor table "wrapper_descriptor.__get__" = some Builtin.«wrapper_descriptor.__get__» := entryFor_of_tree (by kernel_rfl)
theorem args_oga (a b : Value) : argsOk "object.__getattribute__" ⟨[a, b], []⟩ := by unfold argsOk; kernel_rfl
theorem args_wget (a b c : Value) : argsOk "wrapper_descriptor.__get__" ⟨[a, b, c], []⟩ := by unfold argsOk; kernel_rfl
theorem owner_li : (".".intercalate ("list_iterator.__next__".cutAt '.').dropLast) = "list_iterator" := by
  have e0 : "list_iterator.__next__".cutAt '.' = ["list_iterator", "__next__"] := by first | rfl | decide +kernel
  rw [e0]; decide +kernel
theorem sub_li : isSubtype (.type "list_iterator") (.type (".".intercalate ("list_iterator.__next__".cutAt '.').dropLast)) = Pure.pure true := by rw [owner_li, isSubtype_type]; kernel_rfl
end MW
section
variable {prog : Program} {w : World} {A : Around} {E : Value → Shared → Prop} {h : Heap} {g : Array GenState} {d : Drawn} {t : Nat} {os : OsState} {it l : Addr} {i : Nat}
theorem mw_wget {R : Result → Shared → Prop} (ho : h.get? it = some (liO l i)) (hq : R (.ok (.ret (.ref h.objs.size))) ⟨h.push (mwO it), g, d, t, os⟩) :
    codeAny (model prog w) A (.call (.builtin "wrapper_descriptor.__get__") ⟨[.builtin "list_iterator.__next__", .ref it, .type "list_iterator"], []⟩) R ⟨h, g, d, t, os⟩ := by
  have hT : (⟨h, g, d, t, os⟩ : Shared).TypeIs (.ref it) "list_iterator" := ⟨_, ho, rfl⟩
  have hT5 : (⟨h, g, d, t, os⟩ : Shared).TypeIs (.builtin "list_iterator.__next__") "wrapper_descriptor" := MW.ty_next
  have f8 := MW.sub_li
  refine codeAny_call_builtin MW.slot_wget.plain MW.entry_wget (MW.slot_wget.check _ _ _ _ _ _ _ _ hT5 (MW.args_wget _ _ _) ?_)
  wp_delta
  with_reducible refine wpAny_bind ?_
  wp_delta
  (with_reducible apply wpAny_ite_false); focus (rfl; done)
  with_reducible refine wpAny_bind ?_
  with_reducible refine wpAny_pure ?_
  (with_reducible apply wpAny_ite_false); focus (rfl; done)
  with_reducible refine wpAny_pure ?_
  wp_delta
  wp_delta
  with_reducible refine wpAny_bind ?_
  wp_delta
  with_reducible refine wpAny_bind ?_
  wp_delta
  with_reducible refine wpAny_pure ?_
  with_reducible refine wpAny_bind ?_
  with_reducible refine wpAny_isInstance (by assumption) (by assumption) ?_
  (with_reducible apply wpAny_ite_false); focus (rfl; done)
  with_reducible refine wpAny_pure ?_
  with_reducible refine wpAny_bind ?_
  wp_delta
  wp_delta
  (with_reducible apply wpAny_ite_false); focus (rfl; done)
  wp_delta
  wp_delta
  with_reducible refine wpAny_bind ?_
  with_reducible refine wpAny_alloc' ?_
  with_reducible refine wpAny_pure ?_
  wp_delta
  with_reducible refine wpAny_pure ?_
  assumption
theorem mw_oga {tk : Tok} {Q : Fin → Shared → Prop} (ho : h.get? it = some (liO l i)) (hq : Q (.done (.ret (.ref h.objs.size))) ⟨h.push (mwO it), g, d, t, os⟩) :
    wpAny (model prog w) A (Builtin.«object.__getattribute__» ⟨[.ref it, .str "__next__" tk], []⟩) Q E ⟨h, g, d, t, os⟩ := by
  have hT : (⟨h, g, d, t, os⟩ : Shared).TypeIs (.ref it) "list_iterator" := ⟨_, ho, rfl⟩
  have hT5 : (⟨h, g, d, t, os⟩ : Shared).TypeIs (.builtin "list_iterator.__next__") "wrapper_descriptor" := MW.ty_next
  have f4 := PySem.slot_listiter_next.lookup
  have f5 := MW.ty_next
  have f6 := MW.slot_wget.lookup
  have f7 := MW.lk_set
  have f8 := MW.lk_del
  wp_delta
  with_reducible refine wpAny_bind ?_
  wp_delta
  (with_reducible apply wpAny_ite_false); focus (rfl; done)
  (with_reducible apply wpAny_ite_false); focus (rfl; done)
  with_reducible refine wpAny_pure ?_
  with_reducible refine wpAny_bind ?_
  wp_delta
  with_reducible refine wpAny_pure ?_
  with_reducible refine wpAny_bind ?_
  with_reducible refine wpAny_typeOf (by assumption) ?_
  with_reducible refine wpAny_bind ?_
  wp_delta
  with_reducible refine wpAny_bind ?_
  with_reducible refine wpAny_of_eq (by assumption) ?_
  with_reducible refine wpAny_bind ?_
  wp_delta
  with_reducible refine wpAny_specialOf_val (by assumption) (by assumption) ?_
  with_reducible refine wpAny_bind ?_
  wp_delta
  with_reducible refine wpAny_bind ?_
  wp_delta
  with_reducible refine wpAny_bind ?_
  with_reducible refine wpAny_specialOf_val (by assumption) (by assumption) ?_
  (with_reducible apply wpAny_ite_false); focus (rfl; done)
  with_reducible refine wpAny_bind ?_
  with_reducible refine wpAny_specialOf_val (by assumption) (by assumption) ?_
  with_reducible refine wpAny_pure ?_
  (with_reducible apply wpAny_ite_false); focus (rfl; done)
  with_reducible refine wpAny_pure ?_
  wp_delta
  wp_delta
  with_reducible refine wpAny_bind ?_
  wp_delta
  with_reducible refine wpAny_bind ?_
  wp_delta
  with_reducible refine wpAny_bind ?_
  wp_delta
  (with_reducible apply wpAny_loadPart'); focus (heap_get; done)
  wp_delta
  wp_delta
  with_reducible refine wpAny_bind ?_
  (with_reducible apply wpAny_loadPart'); focus (heap_get; done)
  (with_reducible apply wpAny_ite_true); focus (rfl; done)
  with_reducible refine wpAny_pure ?_
  wp_delta
  with_reducible refine wpAny_pure ?_
  with_reducible refine wpAny_bind ?_
  wp_delta
  (with_reducible apply wpAny_ite_false); focus (rfl; done)
  with_reducible refine wpAny_pure ?_
  wp_delta
  with_reducible refine wpAny_bind ?_
  with_reducible refine wpAny_rule ?_
  with_reducible refine wpAny_pure ?_
  wp_delta
  wp_delta
  with_reducible refine wpAny_bind ?_
  with_reducible refine wpAny_holding ?_
  with_reducible refine wpAny_call ?_
  refine mw_wget ho ?_
  wp_delta
  with_reducible refine wpAny_pure ?_
  assumption
theorem mw_get {Q : Value → Shared → Prop} {ex : Bool} (ho : h.get? it = some (liO l i)) (hq : Q (.ref h.objs.size) ⟨h.push (mwO it), g, d, t + 1, os⟩) : wpAny (model prog w) A (getAttr (.ref it) "__next__" ex) Q E ⟨h, g, d, t, os⟩ := by
  have hT : (⟨h, g, d, t + 1, os⟩ : Shared).TypeIs (.ref it) "list_iterator" := ⟨_, ho, rfl⟩
  have f2 := MW.slot_ga.lookup
  have f3 := MW.slot_ga.bind (.ref it)
  unfold getAttr getAttrBy
  refine wpAny_bind (wpAny_mkText ?_)
  with_reducible refine wpAny_holding ?_
  with_reducible refine wpAny_bind ?_
  with_reducible refine wpAny_typeOf (by assumption) ?_
  with_reducible refine wpAny_bind ?_
  with_reducible refine wpAny_of_eq (by assumption) ?_
  (with_reducible apply wpAny_ite_false); focus (rfl; done)
  wp_delta
  with_reducible refine wpAny_bind ?_
  wp_delta
  (with_reducible apply wpAny_ite_false); focus (rfl; done)
  with_reducible refine wpAny_pure ?_
  with_reducible refine wpAny_bind ?_
  with_reducible refine wpAny_attempt ?_
  with_reducible refine wpAny_holding ?_
  wp_delta
  rw [if_neg (by cases ex <;> decide)]
  wp_delta
  with_reducible refine wpAny_bind ?_
  with_reducible refine wpAny_of_eq (by assumption) ?_
  with_reducible refine wpAny_call ?_
  refine codeAny_call_builtin MW.slot_ga.plain MW.entry_oga (MW.slot_ga.check _ _ _ _ _ _ _ _ hT (MW.args_oga _ _) (mw_oga ho ?_))
  wp_delta
  wp_delta
  with_reducible refine wpAny_pure ?_
  assumption
end
-- TA
/-- a StopIteration in flight, at the ledger's head -/
def XS (H : Loc → Led → Prop) : Value → Loc → Led → Prop := fun e m l => ∃ ea oe xs a0 l₂, e = .ref ea ∧ l = (ea, oe) :: l₂ ∧ oe.cls = .type "StopIteration" ∧ oe.data = .fields xs ∧ xs[1]? = some .none ∧ xs[0]? = some a0 ∧ H m l₂
theorem kdk_entry : entryFor table "iter" = some Builtin.«iter» := entryFor_of_fast (by kernel_rfl)
theorem args_iter1 (a : Value) : argsOk "iter" ⟨[a], []⟩ := by unfold argsOk; kernel_rfl
section
variable {c : Cx} {m : Loc} {led : Led} {X : Value → Loc → Led → Prop} {Q : Value → Loc → Led → Prop} {env : Env}
theorem T.iterL {l : Addr} {vs : List Value} {e : Nat} (hm : (l, lst vs e) ∈ led) (h : ∀ it, Q (.ref it) m ((it, liO l 0) :: led)) : T c m led (call (.builtin "iter") [.ref l]) Q X := .mk fun hp tk R => by
  refine PySem.Calls.call_function_entry (by decide +kernel) (by decide +kernel) kdk_entry (args_iter1 _) ?_
  unfold Builtin.«iter»
  refine wpAny_bind (wpAny_of_eq (a := [Value.ref l]) (by first | rfl | kernel_rfl) ?_)
  show wpAny _ _ (pyIter (.ref l) >>= _) _ _ _
  refine wpAny_bind (wpAny_pyIter_list (R.isList hm) ?_)
  exact wpAny_pure ⟨_, rfl, post_ok (R.push (liO l 0) rfl) (h _)⟩
theorem T.mwget {it l : Addr} {i : Nat} {ex : Bool} (hm : (it, liO l i) ∈ led) (h : ∀ b, Q (.ref b) m ((b, mwO it) :: led)) : T c m led (getAttr (.ref it) "__next__" ex) Q X := .mk fun hp tk R =>
  mw_get (R.get hm) (post_ok (tk := tk + 1) (R.push (mwO it) rfl) (h _))
theorem T.mwitem {b it l : Addr} {i : Nat} {vs : List Value} {e : Nat} {x : Value} {led' : Led} (hb : (b, mwO it) ∈ led) (hl : (l, lst vs e) ∈ led) (U : Up it (liO l i) (liO l (i + 1)) led led') (hx : vs[i]? = some x) (h : Q x m led') : T c m led (call (.ref b) []) Q X := .mk fun hp tk R =>
  mw_call (R.get hb) (li_item (R.get U.mem) (R.get hl) hx fun h' ho' hs => ⟨x, rfl, post_ok (R.up U ho' fun b x hb e => hs.extBut b x hb e) h⟩)
theorem T.mwend {b it l : Addr} {i : Nat} {vs : List Value} {e : Nat} {led' : Led} {H : Loc → Led → Prop} (hh : c.A.handled = none) (hb : (b, mwO it) ∈ led) (hl : (l, lst vs e) ∈ led) (hp : ((it, liO l i) :: led').Perm led) (hx : vs[i]? = none) (h : H m led') : T c m led (call (.ref b) []) Q (XS H) := .mk fun hp' tk R => by
  have R1 := R.perm hp
  refine mw_call (R.get hb) (li_end (A := c.A.in1) hh (R1.get (.head _)) (R.get hl) hx fun h' ea oe xs a0 hk hlt hea hc hd h1 h0 => ?_)
  have R2 : Rep c m led' h' := R1.tail hk
  have hlt' : hp'.objs.size < ea := hlt
  refine ⟨m, (ea, oe) :: led', h', tk, rfl, R2.add hea (fun q => ?_) (Nat.ne_of_gt (Nat.lt_trans R.fr.ns.lt hlt')) (Heap.get?_none_of_le (Nat.le_trans R.fr.above (Nat.le_of_lt (Nat.lt_trans R.fr.ns.lt hlt')))) (fun q => ?_), ea, oe, xs, a0, led', rfl, rfl, hc, hd, h1, h0, h⟩
  · obtain ⟨p, hp2, e⟩ := List.mem_map.mp q
    have := Heap.lt_size (R1.news p (.tail _ hp2)).1
    rw [e] at this
    exact absurd this (Nat.lt_asymm hlt')
  · obtain ⟨p, hp2, e⟩ := List.mem_map.mp q
    obtain ⟨⟨sl, e2⟩, _⟩ := R.outs p hp2
    have := Heap.lt_size e2
    rw [e] at this
    exact absurd this (Nat.lt_asymm hlt')
theorem T.callE {func : Expr} {args : List Expr} {pos : Pos} (ht : backTo pos (starEach args env) = plainArgs env args) (he : eval (.Call func args [] pos) env = (do callWith pos (← eval func env) [] (backTo pos (starEach args env)) (backToKw pos (keywordEach [] env))))
    (h : T c m led (eval func env) (fun f m₁ l₁ => T c m₁ l₁ (callWith pos f [] (plainArgs env args) []) Q X) X) : T c m led (eval (.Call func args [] pos) env) Q X := .mk fun hp tk R =>
  Call_ (by rw [ht]; exact then_wp (h.run hp tk R) fun _ _ _ _ _ R₁ q₁ => q₁.run _ _ R₁) he
theorem T.cwmw {b it : Addr} {pos : Pos} {es : List Expr} {first : List Value} (h : T c m led (spliced (plainArgs env es)) (fun vs m₁ l₁ => (b, mwO it) ∈ l₁ ∧ T c m₁ l₁ (PySem.call (.ref b) (first ++ vs)) Q X) X) : T c m led (callWith pos (.ref b) first (plainArgs env es) []) Q X := .mk fun hp tk R =>
  callWith_of (P := fun h => h.get? b = some (mwO it)) (by rw [plainArgs_any]; rfl) (fun h e => ⟨.machine, .inr (.inl rfl), (Looks.ld (part := none) e).andThen (by exact .now)⟩) (evalArgs_p (then_wp (h.run hp tk R) fun _ _ _ _ _ R₁ q₁ => ⟨R₁.get q₁.1, q₁.2.run _ _ R₁⟩))
theorem T.itemLast {value slice : Expr} {l : Addr} {vs : List Value} {n : Nat} {u : Tok} {v : Value} (hm : (l, lst (vs ++ [v]) n) ∈ led) (hsz : vs.length < 2 ^ 60)
    (hs : subscripted slice false (.ref l) (.int (-1) u) = operate [.ref l, .int (-1) u] (getItem (.ref l) (.int (-1) u))) (h : Q v m led) : T c m led (subscriptTail value slice (.ref l) (.int (-1) u)) Q X := .mk fun hp tk R =>
  tail_any (R.isList hm).typeIs slot_list_getitem.lookup (wpAny_getItem_list_neg (R.isList hm) (by decide) (by simp; omega) (by decide) (by
    have : ((-1 : Int) + ((vs ++ [v]).toArray.size : Int)).toNat = vs.length := by simp; omega
    rw [this]; simp) (post_ok R h)) hs
theorem T.pop {l : Addr} {vs : List Value} {e : Nat} {v : Value} {led' : Led} (u : Up l (lst (vs ++ [v]) e) (lst vs (e + 1)) led led') (hsz : vs.length < sizeLine) (h : Q v m led') : T c m led (call (.builtin "list.pop") [.ref l]) Q X := .mk fun hp tk R => by
  have hkl : ∀ vs : List Value, kl_last (vs ++ [v]) = some (vs, v) := fun vs => by
    induction vs with
    | nil => rfl
    | cons a r ih => show (match kl_last (r ++ [v]) with | some (p, y) => some (a :: p, y) | none => some ([], a)) = _; rw [ih]
  exact kl_pop (s := c.s hp tk) (full_fr R) (full_news R) (hkl vs) (u.upd R.nd) (by simp; omega) fun h' F' N' => ⟨m, led', h', tk, rfl, R.of_full F' N' (by rw [u.keys]; exact R.nd), h⟩
theorem T.delS {o i : Expr} {p pos : Pos} {Q : Flow → Loc → Led → Prop} (h : T c m led (eval o env) (fun ov m₁ l₁ => T c m₁ l₁ (eval i env) (fun iv m₂ l₂ => T c m₂ l₂ (delItem ov iv) (fun _ => Q .next) X) X) X) : T c m led (exec (.Delete [.Subscript o i p] pos) env) Q X := .mk fun hp tk R =>
  wpAny_Delete (wpAny_deleteEach_cons (wpAny_delete_Subscript (then_wp (h.run hp tk R) fun _ _ _ _ _ R₁ q₁ => then_wp (q₁.run _ _ R₁) fun _ _ _ _ _ R₂ q₂ => then_wp (q₂.run _ _ R₂) fun _ _ _ _ _ R₃ q₃ => wpAny_deleteEach_nil (post_ok R₃ q₃))))
theorem T.truthyL {l : Addr} {vs : List Value} {e : Nat} {Q : Bool → Loc → Led → Prop} (hm : (l, lst vs e) ∈ led) (hsz : vs.length < 2 ^ 60) (h : Q (!vs.isEmpty) m led) : T c m led (truthy (.ref l)) Q X := .mk fun hp tk R =>
  wpAny_truthy_list (R.isList hm) (by simp; omega) (by have := post_ok (tk := tk + 2) R h; simpa using this)
theorem T.cont {pos : Pos} {Q : Flow → Loc → Led → Prop} (h : Q .cont m led) : T c m led (exec (.Continue pos) env) Q X := .mk fun _ _ R => wpAny_Continue (post_ok R h)
/-- a while with an else -/
theorem T.whileE {test : Expr} {body orelse : List Stmt} {pos : Pos} {Q : Flow → Loc → Led → Prop} (J : Nat → Loc → Led → Prop) (n₀ : Nat) (hJ : J n₀ m led)
    (turn : ∀ n m₁ l₁, J n m₁ l₁ → T c m₁ l₁ (isTrue test env (eval test env)) (fun b m₂ l₂ =>
      if b = true then T c m₂ l₂ (execs body env) (fun f m₃ l₃ => match f with | .next | .cont => ∃ n', n' < n ∧ J n' m₃ l₃ | .brk => Q .next m₃ l₃ | .ret v => Q (.ret v) m₃ l₃) NoX else T c m₂ l₂ (execs orelse env) Q NoX) NoX) :
    T c m led (exec (.While test body orelse pos) env) Q X := .mk fun hp tk R => by
  refine wpAny_While (codeAny_whileLoop (fun n s' => ∃ m₁ l₁ h₁ tk₁, s' = c.s h₁ tk₁ ∧ Rep c m₁ l₁ h₁ ∧ J n m₁ l₁) ?_ n₀ ⟨m, led, hp, tk, rfl, R, hJ⟩)
  rintro n s' ⟨m₁, l₁, h₁, tk₁, rfl, R₁, J₁⟩
  have noX : ∀ (v : Value) (s' : Shared), Post c NoX v s' → False := fun v s' ⟨_, _, _, _, _, _, x⟩ => x
  refine wpAny_mono ((turn n m₁ l₁ J₁).run h₁ tk₁ R₁) (fun b s₂ ⟨m₂, l₂, h₂, tk₂, e, R₂, q₂⟩ => ?_) fun _ _ x => (noX _ _ x).elim
  subst e
  cases b with
  | false =>
    simp only [Bool.false_eq_true, if_false] at q₂ ⊢
    exact wpAny_mono (q₂.run h₂ tk₂ R₂) (fun f s₃ x => x) fun _ _ x => (noX _ _ x).elim
  | true =>
    simp only [if_true] at q₂ ⊢
    refine wpAny_mono (q₂.run h₂ tk₂ R₂) (fun f s₃ ⟨m₃, l₃, h₃, tk₃, e, R₃, q₃⟩ => ?_) fun _ _ x => (noX _ _ x).elim
    subst e
    cases f with
    | next => obtain ⟨n', hn, j⟩ := q₃; exact ⟨n', hn, m₃, l₃, h₃, tk₃, rfl, R₃, j⟩
    | cont => obtain ⟨n', hn, j⟩ := q₃; exact ⟨n', hn, m₃, l₃, h₃, tk₃, rfl, R₃, j⟩
    | brk => exact post_ok R₃ q₃
    | ret v => exact post_ok R₃ q₃
end
-- TB2
theorem b_stop : bootBuiltins (Str.ofString "StopIteration") = some (.type "StopIteration") := by boot_by_name
section
variable {c : Cx} {m : Loc} {led : Led} {X : Value → Loc → Led → Prop} {Q : Flow → Loc → Led → Prop} {env : Env}
theorem Rep.caught {ea : Addr} {oe : Obj} {l₂ : Led} {hp h' : Heap} {fs : List Addr} (R : Rep c m ((ea, oe) :: l₂) hp) (hfs : ∀ f ∈ fs, f ∈ c.L :: c.outs.map (·.1)) (k : (hideAll hp (ea :: fs)).StaysIn h') (u : hp.UpToSlots h') : Rep c m l₂ h' := by
  have nd := R.nd
  rw [List.map_cons, List.nodup_cons] at nd
  have hea := R.news _ (.head _)
  have inb : ∀ b o, hp.get? b = some o → b ≠ ea → b ∉ c.L :: c.outs.map (·.1) → h'.get? b = some o := fun b o e h1 h2 => k b o (hideAll_get _ e fun q => by
    rcases List.mem_cons.mp q with q | q
    · exact h1 q
    · exact h2 (hfs b q))
  refine ⟨⟨u.ns R.fr.ns, fun b o e => inb b o (R.fr.keep b o e) (fun q => ?_) (fun q => ?_), R.fr.above⟩, fun p hp2 => ⟨inb _ _ (R.news p (.tail _ hp2)).1 (fun q => nd.1 (by show ea ∈ _; rw [← q]; exact List.mem_map_of_mem (f := (·.1)) hp2)) (fun q => ?_), (R.news p (.tail _ hp2)).2⟩, nd.2, fun p hp2 => ?_⟩
  · rw [q, hea.2.2] at e; cases e
  · exact hid_mem R e (by
      rcases List.mem_cons.mp q with q | q
      · rw [q]; exact .head _
      · exact .tail _ (List.mem_append_left _ q))
  · rcases List.mem_cons.mp q with q | q
    · exact (R.news p (.tail _ hp2)).2.1 q
    · obtain ⟨p3, hp3, e3⟩ := List.mem_map.mp q
      exact (R.outs p3 hp3).2.2.2.1 (by rw [e3]; exact .tail _ (List.mem_map_of_mem (f := (·.1)) hp2))
  · obtain ⟨⟨sl, e⟩, a2, a3, a4, a5⟩ := R.outs p hp2
    obtain ⟨sl2, e2⟩ := u _ _ e a5
    exact ⟨⟨sl2, e2⟩, a2, a3, fun q => a4 (.tail _ q), a5⟩
theorem funFrames_of {hp : Heap} {base : Heap} {envs : List Env} (R : Rep c m led hp) (h : ∀ env ∈ envs, env.scope.kind ≠ .module ∧ ∃ f, env.frame = some f ∧ f ∈ c.L :: c.outs.map (·.1)) (hb : ∀ f ∈ envs.filterMap (·.frame), base.get? f = none) : hp.FunFrames base envs := by
  induction envs with
  | nil => trivial
  | cons env r ih =>
    obtain ⟨h1, f, h2, h3⟩ := h env (.head _)
    have hf : f ∈ (env :: r).filterMap (·.frame) := by rw [List.filterMap_cons, h2]; exact .head _
    refine ⟨h1, ?_, ih (fun e he => h e (.tail _ he)) fun f hf => hb f (by rw [List.filterMap_cons, h2]; exact .tail _ hf)⟩
    rcases List.mem_cons.mp h3 with rfl | h3
    · obtain ⟨o, es, ep, e, hd, _⟩ := R.fr.ns
      exact ⟨_, o, h2, hb _ hf, e, fun vs q => by rw [hd] at q; cases q⟩
    · obtain ⟨p, hp3, rfl⟩ := List.mem_map.mp h3
      obtain ⟨⟨sl, e⟩, _, _, _, a5⟩ := R.outs p hp3
      exact ⟨_, _, h2, hb _ hf, e, a5⟩
theorem stop_base : isSubtype (.type "StopIteration") (.type "BaseException") = Pure.pure true := by rw [isSubtype_type]; kernel_rfl
theorem stop_meta : isSubtype (.type ((Manifest.find? "StopIteration").elim "type" fun x => x.metatype)) (.type "tuple") = Pure.pure false := by
  rw [isSubtype_type]; kernel_rfl
theorem T.tryStop {n : Nat} {outer : List Env} {body : List Stmt} {b₀ : Stmt} {suite : List Stmt} {np hpos pos : Pos} (H : Loc → Led → Prop) (G : Gd c n) (hfr : c.A.frames = some (env :: outer)) (hL : env.frame = some c.L) (hk : env.scope.kind = .function) (hx : env.kindOf (Str.ofString "StopIteration") = some .globalImplicit) (hg : env.globals = mainGlobals) (hbn : env.builtins = builtinsNs)
    (e0 : nsIn c.K mainGlobals (Str.ofString "StopIteration") = some none)
    (h : T c m led (execs body env) (fun f m₁ l₁ => match f with | .next => Q .next m₁ l₁ | f => Q f m₁ l₁) (XS H))
    (hh : ∀ ea m₁ l₁, H m₁ l₁ → T (c.und (c.A.mark (some (.ref ea)))) m₁ l₁ (execs (b₀ :: suite) env) Q NoX) :
    T c m led (exec (.Try body [.ExceptHandler (some (.Name (Str.ofString "StopIteration") np)) none (b₀ :: suite) hpos] [] [] pos) env) Q X := .mk fun hp tk R => by
  refine wpAny_Try_except (wpAny_mono (h.run hp tk R) (fun f s₁ ⟨m₁, l₁, h₁, tk₁, e, R₁, q₁⟩ => ?_) fun e s₁ ⟨m₁, l₁, h₁, tk₁, es, R₁, ea, oe, xs, a0, l₂, ee, el, hc, hd, hx1, hx0, hH⟩ => ?_)
  · subst e
    cases f with
    | next => exact wpAny_execs_nil (post_ok R₁ q₁)
    | cont => exact post_ok R₁ q₁
    | brk => exact post_ok R₁ q₁
    | ret v => exact post_ok R₁ q₁
  · subst es ee el
    obtain ⟨envs, hfe, hall⟩ := G.frs
    rw [hfr] at hfe
    have hfe' : envs = env :: outer := (Option.some.inj hfe).symm
    subst hfe'
    have hfs : ∀ f ∈ (env :: outer).filterMap (·.frame), f ∈ c.L :: c.outs.map (·.1) := fun f hf => by
      obtain ⟨e1, he1, hf1⟩ := List.mem_filterMap.mp hf
      obtain ⟨_, f2, h2, h3⟩ := hall e1 he1
      rw [hf1] at h2
      rw [Option.some.inj h2]; exact h3
    have FF := funFrames_of (base := hideAll h₁ (ea :: (env :: outer).filterMap (·.frame))) R₁ hall fun f hf => hideAll_none _ (.tail _ hf)
    have hsz : 1 < xs.size := (Array.getElem?_eq_some_iff.mp hx1).1
    unfold noteFrame
    simp only [hL]
    refine wpAny_bind (wpAny_field (R₁.get (.head _)) hd hx1 ?_)
    rw [if_neg (by decide)]
    refine wpAny_newEntryW (base := hideAll h₁ (ea :: (env :: outer).filterMap (·.frame))) hfr FF hL (R₁.get (.head _)) (fun b o e => of_hideAll _ e) (hideAll_none _ (.head _)) hd hsz hx0 fun h' hLeft => ?_
    obtain ⟨k1, k2, k3, k4⟩ := hLeft
    have R₂ : Rep c m₁ l₂ h' := R₁.caught hfs k1 k4
    have hfl : Heap.FlyingW (hideAll h₁ (ea :: (env :: outer).filterMap (·.frame))) (env :: outer) ea oe.cls a0 h' := ⟨k1, hideAll_none _ (.head _), k2, k3⟩
    obtain ⟨ob, hob, hobc⟩ := hfl.there
    obtain ⟨mg, g⟩ := G.g
    obtain ⟨mb, b, bb⟩ := G.b
    refine wpAny_handleBy_builtin (X := "StopIteration") (T := "StopIteration") (b := true) stop_base stop_meta PySem.isSubtype_stop (Name_function_global hk hx (loadGlobal_builtin (env := env) (by rw [hg]; exact g.keeps R₂.fr.keep) (mg_none_of G.K g e0) (by rw [hbn]; exact b.keeps R₂.fr.keep) ((bb (Str.ofString "StopIteration") (by decide)).trans b_stop) ⟨rfl, ⟨ob, hob, hobc.trans hc⟩, ?_⟩) (by decide))
    rw [if_pos rfl]
    refine lands_againW hfl fun h₆ hfl₆ hsm₆ => ?_
    have R₃ : Rep c m₁ l₂ h₆ := R₁.caught hfs hfl₆.1 (Heap.UpToSlots.trans (h₁ := h₁) (h₂ := h') k4 hsm₆)
    have R₄ : Rep (c.und (c.A.mark (some (.ref ea)))) m₁ l₂ h₆ := ⟨R₃.fr, R₃.news, R₃.nd, R₃.outs⟩
    have q := (hh ea m₁ l₂ hH).run h₆ tk₁ R₄
    exact wpAny_mono q (fun f s' ⟨m', l', h', tk', e, R', q'⟩ => ⟨m', l', h', tk', e, ⟨R'.fr, R'.news, R'.nd, R'.outs⟩, q'⟩) fun _ _ ⟨_, _, _, _, _, _, x⟩ => x.elim
end
-- TC2
section
variable {c : Cx} {m : Loc} {led : Led} {X : Value → Loc → Led → Prop} {Q : Value → Loc → Led → Prop} {env : Env}
theorem T.iter_dict {d : Addr} {o : Obj} {kvs : List (Int × Value)} (hh : c.A.handled = none) (lo : (d == sysModules) = false) (hm : (d, o) ∈ led) (hd : IntD c.w o kvs)
    (h : ∀ I oI S, Iter c I kvs.length (fun i v => ∃ k x t, kvs[i]? = some (k, x) ∧ v = .int k t) [(d, o)] S → S 0 oI → Q (.ref I) m ((I, oI) :: led)) : T c m led (pyIter (.ref d)) Q X := .mk fun hp tk R => by
  have ho : hp.get? d = some o := R.get hm
  have hne : d ≠ hp.objs.size := Nat.ne_of_lt (Heap.lt_size ho)
  obtain ⟨ep, ha⟩ := KdkAt.of hd
  refine wpAny_pyIter_dict lo (ha.dictAt ho) ?_
  have W := Walks.dictKeys (prog := pw) (w := c.w) (A := c.A) (knd := intKind pw c.w) hh hp.objs.size d hne kvs ep
  have It := Iter.of_walks (c := c) (ro := [(d, o)]) W (by intro b hb; simp at hb; rcases hb with h | h; exact .inl h; exact .inr ⟨_, by rw [h]; exact .head _⟩) (by intro p hp; simp at hp; subst hp; exact hne)
    (fun i h st => by obtain ⟨⟨oo, h1, h2, _⟩, _⟩ := st; exact ⟨oo, _, h1, h2, by decide⟩)
  refine post_ok (R.push _ rfl) (h _ _ _ ⟨fun i o m l Q X hi S hr k => It.item i o m l Q X hi S hr fun v o' hv hS => k v o' ?_ hS, It.done, It.self, It.plain⟩ ⟨⟨_, rfl, by decide⟩, fun h' e1 e2 => ⟨⟨_, e1, rfl, rfl⟩, ha.dictAt (e2 _ (.head _))⟩⟩)
  obtain ⟨k, x, h1, h2⟩ := hv
  obtain ⟨t, e⟩ := Value.isInt_shape h2
  exact ⟨k, x, t, h1, e⟩
/-- T.def, with the frames around -/
theorem T.defF {n : Nat} {name qual : Str} {params : Arguments} {body : List Stmt} {scope : Scope} {dV kV doc pm cdv ct oc : Value} {an od : Option Addr} {osl : Array (Option Value)} {f : Addr} {args : List Value} (m' : Loc)
    (G : Gd c (n + 1)) (ho : c.K.lookup f = some ⟨oc, od, .func (fnOf name qual params body scope dV kV doc pm an cdv ct), osl⟩) (hcd : codeIn c.K cdv qual = true)
    (hbind : bindArgs (fnOf name qual params body scope dV kV doc pm an cdv ct) ⟨args, []⟩ = Pure.pure (bindsOf m'))
    (hok : (okM m' && ((bindsOf m').all fun x => decide (scope.names.lookup x.1 = some .local)) && !scope.isCoroutine && !scope.isGenerator && (scope.names.all fun x => x.2 != .cell)) = true) (hk : scope.kind = .function)
    (h : ∀ (c' : Cx) (outer : List Env), c'.w = c.w → Gd c' n → c'.A.frames = some (envOf qual scope c'.L f cdv :: outer) → T c' m' led (execs body (envOf qual scope c'.L f cdv)) (fun fl _ l' => ∃ l'', Sub l'' l' ∧ Q (match fl with | .ret v => v | _ => .none) m l'') NoX) :
    T c m led (call (.ref f) args) Q X := .mk fun hp tk R => by
  simp only [Bool.and_eq_true, Bool.not_eq_true'] at hok
  obtain ⟨⟨⟨⟨h1, hloc⟩, hco⟩, hgen⟩, hcell⟩ := hok
  have hm : ∀ y, lookL y m' = (bindsOf m').reverse.lookup y := fun y => by rw [lookup_reverse_nodup _ _ (bindsOf_nodup m' h1), lookup_filter y m' h1]
  have kp : ∀ b o, c.h0.get? b = some o → hp.get? b = some o := R.fr.keep
  have hX : c.K.In hp := Frag.In.keeps G.K kp
  have d1 := G.depth
  obtain ⟨envs, hfe, _⟩ := G.frs
  refine wpAny_call (codeAny_call_def (fd := fnOf name qual params body scope dV kV doc pm an cdv ct) (body := body) (binds := bindsOf m') (by omega) (hX _ _ ho) rfl (G.lim.keeps kp) (codeRec_of hX hcd) rfl (BindsTo.of_eq hbind)
    (fun x hx => by have := List.all_eq_true.mp hcell x hx; simpa using this) (locs hloc) (fun h₁ hns hk₁ => ?_) hco hgen hk)
  have e1 : callEnv (fnOf name qual params body scope dV kV doc pm an cdv ct) hp.objs.size f = envOf qual scope hp.objs.size f cdv := rfl
  rw [e1]
  have hh := h (c.in hp led (c.A.deeper (envOf qual scope hp.objs.size f cdv))) envs rfl (G.in R (Nat.le_refl _) (by show c.A.units + 3 ≤ _; omega) G.hdl (.inr ⟨envOf qual scope hp.objs.size f cdv, rfl, (by show scope.kind ≠ _; rw [hk]; intro q; cases q), rfl⟩)) (by show c.A.frames.map _ = _; rw [hfe]; rfl)
  have R₁ : Rep (c.in hp led (c.A.deeper (envOf qual scope hp.objs.size f cdv))) m' led h₁ := by
    refine R.enter ?_ hk₁
    have : (fun y => lookL y m') = fun y => (bindsOf m').reverse.lookup y := funext hm
    rw [this]; exact hns
  refine wpAny_mono (hh.run h₁ (tk + (bindsOf m').length) R₁) (fun fl s' ⟨m₂, l₂, h', tk', e, R', l3, hs, q⟩ => ?_) fun _ _ ⟨_, _, _, _, _, _, x⟩ => x.elim
  subst e
  exact ⟨_, _, h', tk', rfl, (R.back R').sub hs, q⟩
end
structure Fm where
  k : Nat
  s : Addr
  us : List Value
  e : Nat
  b : Addr
  it : Addr
  i : Nat
  v : Value
abbrev fmL (f : Fm) : Led := [(f.b, mwO f.it), (f.it, liO f.s f.i)]
def fmFl (fr : List Fm) : Led := fr.flatMap fmL
theorem fmFl_cons (f : Fm) (r : List Fm) : fmFl (f :: r) = (f.b, mwO f.it) :: (f.it, liO f.s f.i) :: fmFl r := rfl
def fmK (fr : List Fm) : List (Int × Value) := (fr.map fun f => ((f.k : Int), f.v)).reverse
def seenF (l : List Nat) : Int → Bool := fun k => l.any fun a => ((a : Nat) : Int) == k
theorem seenF_add (l : List Nat) (a : Nat) : (fun k' => seenF l k' || decide (k' = ((a : Nat) : Int))) = seenF (a :: l) := by
  funext k'
  unfold seenF
  rw [List.any_cons, Bool.or_comm]
  congr 1
  by_cases h : k' = (a : Int)
  · subst h; simp
  · have : ((a : Int) == k') = false := by simpa using fun q => h q.symm
    rw [this]; simp [h]
theorem seenF_iff {l : List Nat} {a : Nat} : seenF l (a : Int) = true ↔ a ∈ l := by
  unfold seenF
  rw [List.any_eq_true]
  constructor
  · rintro ⟨b, hb, e⟩
    have : (b : Int) = a := by simpa using e
    have : b = a := by omega
    rw [← this]; exact hb
  · intro h
    exact ⟨a, h, by simp⟩
theorem fmK_none {fr : List Fm} {k : Nat} (h : ∀ f ∈ fr, f.k ≠ k) : valueAt (fmK fr) (k : Int) = none := by
  unfold valueAt fmK
  rw [Option.map_eq_none_iff, List.find?_eq_none]
  intro p hp
  rw [List.mem_reverse] at hp
  obtain ⟨f, hf, rfl⟩ := List.mem_map.mp hp
  have := h f hf
  simp; omega
theorem fmK_push {fr : List Fm} {f : Fm} (h : ∀ g ∈ fr, g.k ≠ f.k) : stored (fmK fr) (f.k : Int) f.v = fmK (f :: fr) := by
  have : (fmK fr).any (fun kv => kv.1 = (f.k : Int)) = false := by
    rw [List.any_eq_false]
    intro p hp
    unfold fmK at hp
    rw [List.mem_reverse] at hp
    obtain ⟨g, hg, rfl⟩ := List.mem_map.mp hp
    have := h g hg
    simp; omega
  unfold stored
  rw [this]
  simp [fmK]
theorem fmK_some {fr : List Fm} {f : Fm} : (valueAt (fmK (f :: fr)) (f.k : Int)).isSome = true := by
  unfold valueAt fmK
  rw [Option.isSome_map, List.find?_isSome]
  exact ⟨((f.k : Int), f.v), by simp, by simp⟩
theorem fmK_pop {fr : List Fm} {f : Fm} (h : ∀ g ∈ fr, g.k ≠ f.k) : without (fmK (f :: fr)) (f.k : Int) = fmK fr := by
  unfold without fmK
  rw [List.map_cons, List.reverse_cons, List.filter_append, List.filter_eq_self.mpr]
  · simp
  · intro p hp
    rw [List.mem_reverse] at hp
    obtain ⟨g, hg, rfl⟩ := List.mem_map.mp hp
    have := h g hg
    simp; omega
-- F18
theorem g_no_stop (w : World) : nsIn (kk.heap_1 w.params) mainGlobals (Str.ofString "StopIteration") = some none := by kernel_rfl
theorem g_no_set (w : World) : nsIn (kk.heap_1 w.params) mainGlobals (Str.ofString "set") = some none := by kernel_rfl
theorem g_no_iter (w : World) : nsIn (kk.heap_1 w.params) mainGlobals (Str.ofString "iter") = some none := by kernel_rfl
theorem b_set : bootBuiltins (Str.ofString "set") = some (.type "set") := by boot_by_name
theorem b_iter : bootBuiltins (Str.ofString "iter") = some (.builtin "iter") := by boot_by_name
abbrev Lg (fr : List Fm) (sl il se na : Addr) (ss : List Value) (e1 : Nat) (bs : List Value) (e2 : Nat) (oS oN : Obj) (co : Led) : Led := fmFl fr ++ ((sl, lst ss e1) :: (il, lst bs e2) :: (se, oS) :: (na, oN) :: co)
abbrev fcM (x d sl il se na : Addr) (v : Option Value) : Loc := [(Str.ofString "self", some (.ref x)), (Str.ofString "n2i", some (.ref d)), (Str.ofString "stack", some (.ref sl)), (Str.ofString "itstack", some (.ref il)), (Str.ofString "seen", some (.ref se)), (Str.ofString "node2stacki", some (.ref na)), (Str.ofString "node", v)]
structure DS (dom : List Nat) (sc : Nat → List Nat) (nds : List Nd) (w : World) (seenL : List Nat) (fr : List Fm) (ss bs : List Value) (oS oN : Obj) : Prop where
  sub : ∀ k ∈ seenL, k ∈ dom
  nd : seenL.Nodup
  fk : ∀ f ∈ fr, f.k ∈ seenL ∧ (f.s, lst f.us f.e) ∈ fl nds ∧ IntsAre f.us (nat2 (sc f.k)) ∧ f.i ≤ (sc f.k).length
  up : (fr.map (·.k)).Pairwise (· > ·)
  ss : IntsAre ss (nat2 (fr.map (·.k)).reverse)
  bs : bs = (fr.map fun f => Value.ref f.b).reverse
  oS : IntS w oS (seenF seenL) seenL.length
  oN : IntD w oN (fmK fr)
def unS (dom : List Nat) (sc : Nat → List Nat) (seenL : List Nat) : Nat := ((dom.filter fun k => decide (k ∉ seenL)).map fun k => 1 + (sc k).length).sum
def muF (sc : Nat → List Nat) (fr : List Fm) : Nat := (fr.map fun f => (sc f.k).length - f.i).sum
inductive FcJ1 (dom : List Nat) (sc : Nat → List Nat) (nds : List Nd) (w : World) (x d sl il se na : Addr) (co : Led) (i : Nat) (m₁ : Loc) (l₁ : Led) : Prop
  | mk (vn : Option Value) (seenL : List Nat) (e1 e2 : Nat) (oS oN : Obj) (hm : m₁ = fcM x d sl il se na vn) (D : DS dom sc nds w seenL [] [] [] oS oN) (hs : Sub (Lg [] sl il se na [] e1 [] e2 oS oN co) l₁)
inductive FcJ2 (dom : List Nat) (sc : Nat → List Nat) (nds : List Nd) (w : World) (x d sl il se na : Addr) (co : Led) (nn : Nat) (m₁ : Loc) (l₁ : Led) : Prop
  | mk (seenL : List Nat) (fr : List Fm) (ss : List Value) (e1 : Nat) (bs : List Value) (e2 : Nat) (oS oN : Obj) (k : Nat) (t : Tok) (hnn : nn = unS dom sc seenL + muF sc fr) (D : DS dom sc nds w seenL fr ss bs oS oN) (hk : k ∈ dom) (hfk : ∀ f ∈ fr, f.k < k) (hm : m₁ = fcM x d sl il se na (some (.int (k : Nat) t))) (hs : Sub (Lg fr sl il se na ss e1 bs e2 oS oN co) l₁)
inductive FcQ (dom : List Nat) (sc : Nat → List Nat) (nds : List Nd) (w : World) (x d sl il se na : Addr) (co : Led) (nn : Nat) (f : Flow) (m : Loc) (l : Led) : Prop
  | mk (hf : f = .next) (seenL : List Nat) (fr : List Fm) (ss : List Value) (e1 : Nat) (bs : List Value) (e2 : Nat) (oS oN : Obj) (v : Option Value) (hle : unS dom sc seenL + muF sc fr ≤ nn) (D : DS dom sc nds w seenL fr ss bs oS oN) (hm : m = fcM x d sl il se na v) (hs : Sub (Lg fr sl il se na ss e1 bs e2 oS oN co) l)
inductive FcJ3 (dom : List Nat) (sc : Nat → List Nat) (nds : List Nd) (w : World) (x d sl il se na : Addr) (co : Led) (seenL : List Nat) (oS : Obj) (nn n2 : Nat) (m₁ : Loc) (l₁ : Led) : Prop
  | mk (fr : List Fm) (ss : List Value) (e1 : Nat) (bs : List Value) (e2 : Nat) (oN : Obj) (v : Option Value) (hn : n2 = fr.length) (hle : unS dom sc seenL + muF sc fr ≤ nn) (D : DS dom sc nds w seenL fr ss bs oS oN) (hm : m₁ = fcM x d sl il se na v) (hs : Sub (Lg fr sl il se na ss e1 bs e2 oS oN co) l₁)
theorem unS_push {dom : List Nat} (sc : Nat → List Nat) {seenL : List Nat} {k : Nat} (hd : dom.Nodup) (hk : k ∈ dom) (hn : k ∉ seenL) : unS dom sc seenL = unS dom sc (k :: seenL) + (1 + (sc k).length) := by
  unfold unS
  induction dom with
  | nil => cases hk
  | cons a r ih =>
    rw [List.nodup_cons] at hd
    by_cases ha : a = k
    · subst ha
      have e : ∀ b ∈ r, (decide (b ∉ seenL)) = (decide (b ∉ a :: seenL)) := fun b hb => by
        have : b ≠ a := fun q => hd.1 (q ▸ hb)
        simp [this]
      rw [List.filter_cons, if_pos (by simpa using hn), List.filter_cons, if_neg (by simp), List.filter_congr e]
      simp; omega
    · have hk' : k ∈ r := by
        rcases List.mem_cons.mp hk with q | q
        · exact (ha q.symm).elim
        · exact q
      have := ih hd.2 hk'
      rw [List.filter_cons, List.filter_cons]
      by_cases hs : a ∈ seenL
      · rw [if_neg (by simpa using hs), if_neg (by simp [hs])]
        exact this
      · rw [if_pos (by simpa using hs), if_pos (by simp [hs, ha])]
        simp only [List.map_cons, List.sum_cons]
        omega
theorem Sub.trans {a b c : Led} (h1 : Sub a b) (h2 : Sub b c) : Sub a c := by
  obtain ⟨k1, p1, s1⟩ := h1
  obtain ⟨k2, p2, s2⟩ := h2
  obtain ⟨k3, p3, s3⟩ := List.exists_perm_sublist s1 p2
  exact ⟨k3, p1.trans p3.symm, s3.trans s2⟩
theorem Sub.out {p : Addr × Obj} {a l : Led} (h : Sub (p :: a) l) : ∃ l', (p :: l').Perm l ∧ Sub a l' := by
  obtain ⟨k, p1, s1⟩ := h
  obtain ⟨r, p2⟩ := s1.exists_perm_append
  exact ⟨a ++ r, ((p1.append_right r).trans p2.symm : ((p :: a) ++ r).Perm l), ⟨a, .refl _, List.sublist_append_left _ _⟩⟩
theorem nodup_len : ∀ {a d : List Nat}, a.Nodup → (∀ k ∈ a, k ∈ d) → a.length ≤ d.length
  | [], _, _, _ => Nat.zero_le _
  | x :: r, d, nd, h => by
    rw [List.nodup_cons] at nd
    have hx := h x (.head _)
    have := nodup_len (d := d.erase x) nd.2 fun k hk => (List.mem_erase_of_ne (fun (q : k = x) => nd.1 (by rw [← q]; exact hk))).mpr (h k (.tail _ hk))
    rw [List.length_erase_of_mem hx] at this
    have : 0 < d.length := List.length_pos_of_mem hx
    rw [List.length_cons]
    omega
theorem ints_last {us : List Value} {ps : List Nat} {p : Nat} (h : IntsAre us (nat2 (ps ++ [p]))) : ∃ vs t, us = vs ++ [.int (p : Nat) t] ∧ IntsAre vs (nat2 ps) := by
  induction ps generalizing us with
  | nil =>
    have hl := ints_len h
    obtain ⟨t, ht⟩ := ints_at h (i := 0) (by simp)
    cases us with
    | nil => cases hl
    | cons a r =>
      have hr : r = [] := List.eq_nil_of_length_eq_zero (by simpa using hl)
      subst hr
      have : a = .int (p : Nat) t := by simpa using ht
      exact ⟨[], t, by rw [this]; rfl, .nil⟩
  | cons q r ih =>
    cases h with
    | cons _ _ h' =>
      obtain ⟨vs, t, e, hv⟩ := ih h'
      exact ⟨_ :: vs, t, by rw [e]; rfl, .cons _ _ hv⟩
theorem muF_cons (sc : Nat → List Nat) (f : Fm) (r : List Fm) : muF sc (f :: r) = ((sc f.k).length - f.i) + muF sc r := by unfold muF; simp
section
variable {c : Cx} {m : Loc} {led : Led} {X : Value → Loc → Led → Prop} {Q : Value → Loc → Led → Prop} {env : Env}
theorem T.getScM {n : Nat} {nd : Nd} {ex : Bool} (G : Gd c n) (h1 : (nd.x, ndO nd) ∈ led) (h2 : (nd.d, dictOf [] 0) ∈ led) (h : Q (.ref nd.s) m led) : T c m led (getAttr (.ref nd.x) "successors" ex) Q X :=
  T.getS (C := 89) (sl := #[some (.int (nd.k : Nat) nd.t), some (.int nd.np nd.tp), some (.ref nd.s)]) (i := 2) G h1 h2 (by kernel_rfl) (nd_cls _) (nd_g92 _) (by kernel_rfl) (by kernel_rfl) (nd_s92 _) rfl rfl h
theorem find_cycle_T {n : Nat} (G : Gd c (n + 1)) {x dx d : Addr} {o : Obj} {ks : Nat → Int × Tok} {rdy po fi : Value} {nds : List Nd} {base : Led} {dom : List Nat} {np : Nat → Int} {sc : Nat → List Nat} (lo : (d == sysModules) = false) (S : Stt dom np sc nds) (hd : IntD c.w o (kvsOf nds.reverse)) (hup : ∀ k ∈ dom, ∀ s ∈ sc k, s ∈ dom ∧ k < s) (hdl : dom.length ≤ 20) (hscl : ∀ k, (sc k).length ≤ 100)
    (h : Q .none m (Core x dx d o ks rdy po fi nds base)) : T c m (Core x dx d o ks rdy po fi nds base) (call (.ref 176) [.ref x]) Q X := by
  refine T.defF [(Str.ofString "self", some (.ref x)), (Str.ofString "n2i", none), (Str.ofString "stack", none), (Str.ofString "itstack", none), (Str.ofString "seen", none), (Str.ofString "node2stacki", none), (Str.ofString "node", none)] G rfl (by kernel_rfl) (by kernel_rfl) (by kernel_rfl) rfl ?_
  intro c' outer hw G' hfr
  rw [← hw] at hd
  repeat' wtm_at "c"
  refine T.attr (by with_unfolding_all rfl) ?_
  repeat' wtm_at "c"
  refine T.getA (x := x) (dx := dx) (v := .ref d) (od := srtO ks (.ref d) rdy po fi) G' (by wtm_at "mem") (by wtm_at "mem") (srt_ga _) (by kernel_rfl) rfl ?_
  repeat' wtm_at "c"
  refine T.list (by kernel_rfl) ?_
  refine T.snil ⟨by decide, fun sl => ?_⟩
  repeat' wtm_at "c"
  refine T.list (by kernel_rfl) ?_
  refine T.snil ⟨by decide, fun il => ?_⟩
  repeat' wtm_at "c"
  refine T.bltn G' (g_no_set _) b_set (by decide) rfl rfl rfl (by kernel_rfl) (by kernel_rfl) ?_
  refine T.cwt ?_
  repeat' wtm_at "c"
  refine T.set0 fun se oS hoS => ?_
  repeat' wtm_at "c"
  refine T.dict0 G' fun na oN hlon hoN => ?_
  repeat' wtm_at "c"
  generalize hco : Core x dx d o ks rdy po fi nds base = co at h ⊢
  have hmd : (d, o) ∈ co := by rw [← hco]; wtm_at "mem"
  have hmn : ∀ nd ∈ nds, (nd.x, ndO nd) ∈ co ∧ (nd.d, dictOf [] 0) ∈ co ∧ (nd.s, lst nd.us nd.e) ∈ co := fun nd hn => by
    rw [← hco]
    exact ⟨.tail _ (.tail _ (.tail _ (List.mem_append_left _ (fl_mem hn).1))), .tail _ (.tail _ (.tail _ (List.mem_append_left _ (fl_mem hn).2.1))), .tail _ (.tail _ (.tail _ (List.mem_append_left _ (fl_mem hn).2.2)))⟩
  have hml : ∀ p ∈ fl nds, p ∈ co := fun p hp => by rw [← hco]; exact .tail _ (.tail _ (.tail _ (List.mem_append_left _ hp)))
  refine T.for (fun _ => rfl) ?_
  repeat' wtm_at "c"
  refine T.iter_dict (o := o) G'.hdl lo (by wtm_at "mem") hd fun I oI S0 W hS => ?_
  refine TC.for W hS (FcJ1 dom sc nds c'.w x d sl il se na co) ?_ ?_ ?_ ?_
  · rintro i m₁ l₁ ⟨vn, seenL, e1, e2, oS, oN, rfl, D, hs⟩ p hp
    rw [List.mem_singleton.mp hp]
    obtain ⟨l2, p1, p2⟩ := hs
    exact .inl (p2.subset (p1.subset (by show _ ∈ _ ++ _; wtm_at "mem2")))
  · refine ⟨none, [], 0, 0, oS, oN, rfl, ⟨(fun k hk => by cases hk), List.nodup_nil, (fun f hf => by cases hf), List.Pairwise.nil, .nil, rfl, hoS, hoN⟩, ?_⟩
    show Sub ((sl, lst [] 0) :: (il, lst [] 0) :: (se, oS) :: (na, oN) :: co) _
    wtm_at "sub"
  · rintro i v oi m₁ l₁ hi ⟨kz, xz, tv, hkv, rfl⟩ ⟨vn, seenL, e1, e2, oS, oN, rfl, D, hs⟩
    have hkn : ∃ nd ∈ nds, kz = (nd.k : Int) := by
      have := List.mem_of_getElem? hkv
      unfold kvsOf at this
      obtain ⟨nd, hn, e⟩ := List.mem_map.mp this
      exact ⟨nd, by simpa using hn, (congrArg Prod.fst e).symm⟩
    clear hkv
    obtain ⟨nd0, hn0, rfl⟩ := hkn
    have hk0 : nd0.k ∈ dom := by rw [← S.keys]; exact List.mem_map_of_mem hn0
    generalize nd0.k = k at hk0 ⊢
    refine T.part (l' := Lg [] sl il se na [] e1 [] e2 oS oN ((I, oi) :: co)) ?_ ?_
    · refine Sub.trans ?_ (Sub.keep hs)
      show Sub ((sl, lst [] e1) :: (il, lst [] e2) :: (se, oS) :: (na, oN) :: (I, oi) :: co) ((I, oi) :: (sl, lst [] e1) :: (il, lst [] e2) :: (se, oS) :: (na, oN) :: co)
      wtm_at "sub"
    refine T.asName ?_
    repeat' wtm_at "c"
    have hsl := nodup_len D.nd D.sub
    refine T.sin (g := fun o' => Lg [] sl il se na [] e1 [] e2 o' oN ((I, oi) :: co)) (fun o' => Up.app (.tail (.tail .head))) D.oS (by show _ < 4096; omega) ?_
    repeat' wtm_at "c"
    have fin : ∀ vn seenL e1 e2 oS oN l₄, DS dom sc nds c'.w seenL [] [] [] oS oN → Sub (Lg [] sl il se na [] e1 [] e2 oS oN ((I, oi) :: co)) l₄ → ∃ l', ((I, oi) :: l').Perm l₄ ∧ FcJ1 dom sc nds c'.w x d sl il se na co (i + 1) (fcM x d sl il se na vn) l' := fun vn seenL e1 e2 oS oN l₄ D hs => by
      obtain ⟨l', p1, s1⟩ := Sub.out (p := (I, oi)) (a := Lg [] sl il se na [] e1 [] e2 oS oN co) (Sub.trans (b := Lg [] sl il se na [] e1 [] e2 oS oN ((I, oi) :: co)) (by
        show Sub ((I, oi) :: (sl, lst [] e1) :: (il, lst [] e2) :: (se, oS) :: (na, oN) :: co) ((sl, lst [] e1) :: (il, lst [] e2) :: (se, oS) :: (na, oN) :: (I, oi) :: co)
        wtm_at "sub") hs)
      exact ⟨l', p1, vn, seenL, e1, e2, oS, oN, rfl, D, s1⟩
    by_cases hsk : seenF seenL (k : Int) = true
    · rw [if_pos hsk]
      wtm_at "c"
      refine T.cont ?_
      repeat wtm_at "un"
      exact fin _ seenL e1 e2 oS oN _ D (.refl _)
    rw [if_neg hsk]
    repeat' wtm_at "c"
    refine T.while (FcJ2 dom sc nds c'.w x d sl il se na ((I, oi) :: co)) (unS dom sc seenL + muF sc []) ⟨seenL, [], [], e1, [], e2, oS, oN, k, tv, rfl, D, hk0, (fun f hf => by cases hf), rfl, .refl _⟩ ?_
    rintro nn m₁ l₁ ⟨seenL, fr, ss, e1, bs, e2, oS, oN, k, t, hnn, D, hk, hfk, rfl, hs⟩
    refine T.part hs ?_
    refine T.truth rfl ?_
    refine T.cbool ?_
    refine T.truthy_bool ?_
    rw [if_pos rfl]
    refine T.execs_cons ?_
    refine T.mono (Q := FcQ dom sc nds c'.w x d sl il se na ((I, oi) :: co) nn) ?_ ?_
    · refine T.ite ?_
      repeat' wtm_at "c"
      have hsl := nodup_len D.nd D.sub
      refine T.sin (g := fun o' => Lg fr sl il se na ss e1 bs e2 o' oN ((I, oi) :: co)) (fun o' => Up.app (.tail (.tail .head))) D.oS (by show _ < 4096; omega) ?_
      repeat' wtm_at "c"
      by_cases hsk : seenF seenL (k : Int) = true
      · rw [if_pos hsk]
        repeat' wtm_at "c"
        refine T.din (o := oN) (by wtm_at "mem2") D.oN hlon ?_
        rw [fmK_none fun f hf => Nat.ne_of_lt (hfk f hf)]
        repeat' wtm_at "c"
        rw [if_neg (by decide)]
        repeat' wtm_at "c"
        exact ⟨rfl, seenL, fr, ss, e1, bs, e2, oS, oN, _, Nat.le_of_eq hnn.symm, D, rfl, .refl _⟩
      · rw [if_neg hsk]
        have hkn : k ∉ seenL := fun q => hsk (seenF_iff.mpr q)
        repeat' wtm_at "c"
        refine T.mcall (by kernel_rfl) (by kernel_rfl) ?_
        repeat' wtm_at "c"
        refine T.sgm_add (g := fun o' => Lg fr sl il se na ss e1 bs e2 o' oN ((I, oi) :: co)) (fun o' => Up.app (.tail (.tail .head))) D.oS (by show _ < 4096; omega) ?_
        refine T.cwb ?_
        repeat' wtm_at "c"
        refine T.sadd1 (g := fun o' => Lg fr sl il se na ss e1 bs e2 o' oN ((I, oi) :: co)) (fun o' => Up.app (.tail (.tail .head))) D.oS (by show _ < 4096; omega) fun oS2 hoS2 => ?_
        rw [if_neg hsk, seenF_add] at hoS2
        repeat' wtm_at "c"
        refine T.mcall (by kernel_rfl) (by kernel_rfl) ?_
        repeat' wtm_at "c"
        refine T.list_method (vs := bs) (n := e2) (by wtm_at "mem2") F.slot_list_append F.type_list_append ?_
        refine T.cwb ?_
        repeat' wtm_at "c"
        refine T.attr (by with_unfolding_all rfl) ?_
        repeat' wtm_at "c"
        refine T.bltn G' (g_no_iter _) b_iter (by decide) rfl rfl rfl (by kernel_rfl) (by kernel_rfl) ?_
        refine T.cwb ?_
        repeat' wtm_at "c"
        refine T.attr (by with_unfolding_all rfl) ?_
        repeat' wtm_at "c"
        obtain ⟨nd, hn, hnk⟩ := S.get hk
        have hva := va_some S.keyed hn
        rw [hnk] at hva
        obtain ⟨mx, mdd, ms⟩ := hmn nd hn
        refine T.ditem (o := o) (kvs := kvsOf nds.reverse) (by wtm_at "mem2") hd hva (by with_unfolding_all rfl) (by intro _; with_unfolding_all rfl) ?_
        refine T.getScM (nd := nd) G' (by wtm_at "mem2") (by wtm_at "mem2") ?_
        repeat' wtm_at "c"
        refine T.iterL (vs := nd.us) (e := nd.e) (by wtm_at "mem2") fun it => ?_
        refine T.mwget (i := 0) (by wtm_at "mem2") fun b => ?_
        repeat' wtm_at "c"
        have hbl : bs.length = fr.length := by rw [D.bs]; simp
        have hfl : fr.length ≤ dom.length := by
          have h1 : (fr.map (·.k)).Nodup := D.up.imp fun q => Nat.ne_of_gt q
          have h2 := nodup_len (d := dom) h1 fun a ha => by
            obtain ⟨f, hf, rfl⟩ := List.mem_map.mp ha
            exact D.sub _ (D.fk f hf).1
          simpa using h2
        refine T.append (vs := bs) (n := e2) (led' := (b, mwO it) :: (it, liO nd.s 0) :: Lg fr sl il se na ss e1 (bs ++ [.ref b]) (e2 + 1) oS2 oN ((I, oi) :: co)) (.tail (.tail (Up.app (.tail .head)))) (by unfold sizeLine; omega) ?_
        repeat' wtm_at "c"
        refine T.assignS (by kernel_rfl) ?_
        wtm_at "c"
        wtm_at "len"
        have hssl := ints_len D.ss
        rw [List.length_reverse, List.length_map] at hssl
        refine T.len (vs := ss) (e := e1) (by wtm_at "mem2") (by omega) fun t5 => ?_
        repeat' wtm_at "c"
        have hnf : ∀ g ∈ fr, g.k ≠ k := fun g hg => Nat.ne_of_lt (hfk g hg)
        refine T.dset (o := oN) (kvs := fmK fr) (g := fun o' => (b, mwO it) :: (it, liO nd.s 0) :: Lg fr sl il se na ss e1 (bs ++ [.ref b]) (e2 + 1) oS2 o' ((I, oi) :: co)) (fun o' => .tail (.tail (Up.app (.tail (.tail (.tail .head)))))) D.oN (by unfold fmK; rw [List.length_reverse, List.length_map]; unfold sizeLine; omega) fun oN2 hoN2 => ?_
        repeat' wtm_at "c"
        refine T.mcall (by kernel_rfl) (by kernel_rfl) ?_
        repeat' wtm_at "c"
        refine T.list_method (vs := ss) (n := e1) (by wtm_at "mem2") F.slot_list_append F.type_list_append ?_
        refine T.cwb ?_
        repeat' wtm_at "c"
        refine T.append (vs := ss) (n := e1) (led' := (b, mwO it) :: (it, liO nd.s 0) :: Lg fr sl il se na (ss ++ [.int (k : Nat) t]) (e1 + 1) (bs ++ [.ref b]) (e2 + 1) oS2 oN2 ((I, oi) :: co)) (.tail (.tail (Up.app .head))) (by unfold sizeLine; omega) ?_
        repeat' wtm_at "c"
        have hscn := S.sc nd hn
        rw [hnk] at hscn
        have hoN3 : IntD c'.w oN2 (fmK (⟨k, nd.s, nd.us, nd.e, b, it, 0, .int (ss.length : Nat) t5⟩ :: fr)) := by
          rw [← fmK_push (f := ⟨k, nd.s, nd.us, nd.e, b, it, 0, .int (ss.length : Nat) t5⟩) hnf]; exact hoN2
        refine ⟨rfl, k :: seenL, ⟨k, nd.s, nd.us, nd.e, b, it, 0, .int (ss.length : Nat) t5⟩ :: fr, ss ++ [.int (k : Nat) t], e1 + 1, bs ++ [.ref b], e2 + 1, oS2, oN2, _, ?_, ⟨?_, ?_, ?_, ?_, ?_, ?_, hoS2, hoN3⟩, rfl, .refl _⟩
        · rw [hnn, unS_push sc S.nodup hk hkn, muF_cons]
          show _ + ((sc k).length - 0 + muF sc fr) ≤ _
          omega
        · intro a ha
          rcases List.mem_cons.mp ha with rfl | ha
          · exact hk
          · exact D.sub a ha
        · exact List.nodup_cons.mpr ⟨hkn, D.nd⟩
        · intro f hf
          rcases List.mem_cons.mp hf with rfl | hf
          · exact ⟨.head _, (fl_mem hn).2.2, hscn, Nat.zero_le _⟩
          · obtain ⟨a1, a2, a3, a4⟩ := D.fk f hf
            exact ⟨.tail _ a1, a2, a3, a4⟩
        · rw [List.map_cons, List.pairwise_cons]
          refine ⟨fun a ha => ?_, D.up⟩
          obtain ⟨f, hf, rfl⟩ := List.mem_map.mp ha
          exact hfk f hf
        · rw [List.map_cons, List.reverse_cons]
          exact ints_snoc D.ss
        · rw [D.bs]; simp
    · rintro f m₁ l₂ ⟨rfl, seenL, fr, ss, e1, bs, e2, oS, oN, v, hle, D, rfl, hs⟩
      show T c' _ _ _ _ _
      wtm_at "c"
      refine T.whileE (FcJ3 dom sc nds c'.w x d sl il se na ((I, oi) :: co) seenL oS nn) fr.length ⟨fr, ss, e1, bs, e2, oN, v, rfl, hle, D, rfl, hs⟩ ?_
      clear hle D hs hnn
      rintro n2 m₁ l₁ ⟨fr, ss, e1, bs, e2, oN, v, rfl, hle, D, rfl, hs⟩
      refine T.part hs ?_
      have hssl := ints_len D.ss
      rw [List.length_reverse, List.length_map] at hssl
      have hfl : fr.length ≤ dom.length := by
        have h1 : (fr.map (·.k)).Nodup := D.up.imp fun q => Nat.ne_of_gt q
        have h2 := nodup_len (d := dom) h1 fun a ha => by
          obtain ⟨f, hf, rfl⟩ := List.mem_map.mp ha
          exact D.sub _ (D.fk f hf).1
        simpa using h2
      refine T.truth rfl ?_
      repeat' wtm_at "c"
      refine T.truthyL (vs := ss) (e := e1) (by wtm_at "mem2") (by omega) ?_
      cases fr with
      | nil =>
        have hss : ss = [] := List.eq_nil_of_length_eq_zero hssl
        have hbs : bs = [] := D.bs
        subst hss hbs
        rw [if_neg (by decide)]
        wtm_at "c"
        refine T.brk ?_
        repeat wtm_at "un"
        show T c' _ _ _ _ _
        repeat' wtm_at "c"
        exact fin _ seenL e1 e2 oS oN _ D (.refl _)
      | cons f r =>
        obtain ⟨hf1, hf2, hf3, hf4⟩ := D.fk f (.head _)
        have hfm : (f.s, lst f.us f.e) ∈ co := hml _ hf2
        have hful := ints_len hf3
        have hss0 : ¬ ss.isEmpty = true := fun q => by
          rw [List.isEmpty_iff] at q; rw [q] at hssl; cases hssl
        rw [if_pos (by simpa using hss0)]
        have hbs : bs = (r.map fun f => Value.ref f.b).reverse ++ [.ref f.b] := by rw [D.bs]; simp
        subst hbs
        obtain ⟨ss', tt, hsse, hss'⟩ : ∃ ss' tt, ss = ss' ++ [.int (f.k : Nat) tt] ∧ IntsAre ss' (nat2 (r.map (·.k)).reverse) := by
          have h1 := D.ss
          rw [List.map_cons, List.reverse_cons] at h1
          exact ints_last h1
        subst hsse
        refine T.execs_cons ?_
        refine T.tryStop (fun m l => f.i = (sc f.k).length ∧ m = fcM x d sl il se na v ∧ l = (f.b, mwO f.it) :: Lg r sl il se na (ss' ++ [.int (f.k : Nat) tt]) e1 ((r.map fun f => Value.ref f.b).reverse ++ [.ref f.b]) e2 oS oN ((I, oi) :: co)) G' hfr rfl rfl (by kernel_rfl) rfl rfl (g_no_stop _) ?_ ?_
        · wtm_at "c"
          refine T.assign (by kernel_rfl) ?_
          refine T.callE (by kernel_rfl) (by with_unfolding_all rfl) ?_
          repeat' wtm_at "c"
          refine T.unary ?_
          repeat' wtm_at "c"
          refine T.neg fun t6 => ?_
          refine T.itemLast (vs := (r.map fun f => Value.ref f.b).reverse) (v := .ref f.b) (n := e2) (by wtm_at "mem2") (by simp; simp at hfl; omega) (by with_unfolding_all rfl) ?_
          refine T.cwmw (it := f.it) ?_
          repeat' wtm_at "c"
          refine ⟨.head _, ?_⟩
          by_cases hlt : f.i < (sc f.k).length
          · obtain ⟨t7, hat⟩ := ints_at hf3 hlt
            have hgs : (sc f.k)[f.i]? = some ((sc f.k).getD f.i 0) := by rw [List.getD_eq_getElem?_getD, List.getElem?_eq_getElem hlt]; rfl
            generalize (sc f.k).getD f.i 0 = s at hat hgs
            obtain ⟨hsd, hks⟩ := hup f.k (D.sub _ hf1) s (List.mem_of_getElem? hgs)
            refine T.mwitem (it := f.it) (l := f.s) (i := f.i) (vs := f.us) (e := f.e) (led' := Lg ({ f with i := f.i + 1 } :: r) sl il se na (ss' ++ [.int (f.k : Nat) tt]) e1 ((r.map fun f => Value.ref f.b).reverse ++ [.ref f.b]) e2 oS oN ((I, oi) :: co)) (.head _) (by wtm_at "mem2") (.tail .head) hat ?_
            repeat' wtm_at "c"
            refine T.brk ?_
            repeat wtm_at "un"
            show T c' _ _ _ _ _
            repeat' wtm_at "c"
            have hup' := D.up
            rw [List.map_cons, List.pairwise_cons] at hup'
            refine ⟨unS dom sc seenL + muF sc ({ f with i := f.i + 1 } :: r), ?_, seenL, { f with i := f.i + 1 } :: r, _, _, _, _, oS, oN, s, t7, rfl, ⟨D.sub, D.nd, ?_, D.up, D.ss, D.bs, D.oS, D.oN⟩, hsd, ?_, rfl, .refl _⟩
            · rw [muF_cons] at hle ⊢
              show _ + ((sc f.k).length - (f.i + 1) + muF sc r) < nn
              omega
            · intro g hg
              rcases List.mem_cons.mp hg with rfl | hg
              · exact ⟨hf1, hf2, hf3, hlt⟩
              · exact D.fk g (.tail _ hg)
            · intro g hg
              rcases List.mem_cons.mp hg with rfl | hg
              · exact hks
              · exact Nat.lt_trans (hup'.1 g.k (List.mem_map_of_mem hg)) hks
          · have hnone : f.us[f.i]? = none := by rw [List.getElem?_eq_none_iff]; omega
            refine T.mwend (it := f.it) (l := f.s) (i := f.i) (vs := f.us) (e := f.e) (led' := (f.b, mwO f.it) :: Lg r sl il se na (ss' ++ [.int (f.k : Nat) tt]) e1 ((r.map fun f => Value.ref f.b).reverse ++ [.ref f.b]) e2 oS oN ((I, oi) :: co)) G'.hdl (.head _) (by wtm_at "mem2") (.swap _ _ _) hnone ?_
            exact ⟨by omega, rfl, rfl⟩
        · rintro ea m₁ l₁ ⟨hfi, rfl, rfl⟩
          have hup' := D.up
          rw [List.map_cons, List.pairwise_cons] at hup'
          have hnf : ∀ g ∈ r, g.k ≠ f.k := fun g hg => Nat.ne_of_lt (hup'.1 g.k (List.mem_map_of_mem hg))
          wtm_at "c"
          refine T.delS ?_
          repeat' wtm_at "c"
          refine T.mcall (by kernel_rfl) (by kernel_rfl) ?_
          repeat' wtm_at "c"
          refine T.list_method (vs := ss' ++ [.int (f.k : Nat) tt]) (n := e1) (by wtm_at "mem2") F.slot_list_pop F.type_list_pop ?_
          refine T.cwb ?_
          repeat' wtm_at "c"
          have hss'l := ints_len hss'
          rw [List.length_reverse, List.length_map] at hss'l
          rw [List.length_cons] at hfl
          refine T.pop (vs := ss') (e := e1) (v := .int (f.k : Nat) tt) (led' := (f.b, mwO f.it) :: Lg r sl il se na ss' (e1 + 1) ((r.map fun f => Value.ref f.b).reverse ++ [.ref f.b]) e2 oS oN ((I, oi) :: co)) (.tail (Up.app .head)) (by unfold sizeLine; omega) ?_
          refine T.ddel (o := oN) (kvs := fmK (f :: r)) (g := fun o' => (f.b, mwO f.it) :: Lg r sl il se na ss' (e1 + 1) ((r.map fun f => Value.ref f.b).reverse ++ [.ref f.b]) e2 oS o' ((I, oi) :: co)) (fun o' => .tail (Up.app (.tail (.tail (.tail .head))))) D.oN fmK_some (by unfold fmK; rw [List.length_reverse, List.length_map, List.length_cons]; unfold sizeLine; omega) fun oN2 hoN2 => ?_
          rw [fmK_pop hnf] at hoN2
          repeat' wtm_at "c"
          refine T.mcall (by kernel_rfl) (by kernel_rfl) ?_
          repeat' wtm_at "c"
          refine T.list_method (vs := (r.map fun f => Value.ref f.b).reverse ++ [.ref f.b]) (n := e2) (by wtm_at "mem2") F.slot_list_pop F.type_list_pop ?_
          refine T.cwb ?_
          repeat' wtm_at "c"
          refine T.pop (vs := (r.map fun f => Value.ref f.b).reverse) (e := e2) (v := .ref f.b) (led' := (f.b, mwO f.it) :: Lg r sl il se na ss' (e1 + 1) (r.map fun f => Value.ref f.b).reverse (e2 + 1) oS oN2 ((I, oi) :: co)) (.tail (Up.app (.tail .head))) (by simp; unfold sizeLine; omega) ?_
          repeat' wtm_at "c"
          refine ⟨r.length, by simp, r, ss', e1 + 1, _, e2 + 1, oN2, v, rfl, ?_, ⟨D.sub, D.nd, fun g hg => D.fk g (.tail _ hg), hup'.2, hss', rfl, D.oS, hoN2⟩, rfl, .cons (.refl _)⟩
          rw [muF_cons] at hle
          omega
  · rintro m₁ l₁ ⟨vn, seenL, e1, e2, oS, oN, rfl, D, hs⟩
    repeat' wtm_at "c"
    repeat wtm_at "un"
    exact ⟨co, Sub.trans (.cons (.cons (.cons (.cons (.refl _))))) hs, h⟩
end
-- F19
abbrev vwO (d : Addr) : Obj := { cls := .type "dict_values", data := .fields #[.ref d] }
theorem filter_one {l : List Nat} {a : Nat} (nd : l.Nodup) (h : a ∈ l) : l.filter (fun k => k == a) = [a] := by
  induction l with
  | nil => cases h
  | cons b r ih =>
    rw [List.nodup_cons] at nd
    by_cases e : b = a
    · subst e
      rw [List.filter_cons, if_pos (by simp)]
      have : r.filter (fun k => k == b) = [] := by
        rw [List.filter_eq_nil_iff]
        intro k hk q
        exact nd.1 ((beq_iff_eq.mp q) ▸ hk)
      rw [this]
    · rw [List.filter_cons, if_neg (by simpa using e)]
      refine ih nd.2 ?_
      rcases List.mem_cons.mp h with q | q
      · exact (e q.symm).elim
      · exact q
section
variable {c : Cx} {m : Loc} {led : Led} {X : Value → Loc → Led → Prop} {Q : Value → Loc → Led → Prop} {env : Env} {d : Addr} {o : Obj} {kvs : List (Int × Value)}
theorem T.dvm {pl : Sem Bool} {Q : Value × List Value → Loc → Led → Prop} (hm : (d, o) ∈ led) (hd : IntD c.w o kvs) (h : Q (.builtin "dict.values", [.ref d]) m led) : T c m led (getMethod (.ref d) "values" pl) Q X := .mk fun hp tk R => kob_method (s := c.s hp tk) F.slot_dict_values F.type_dict_values R.news hm hd (post_ok R h)
theorem T.dvals (hm : (d, o) ∈ led) (hd : IntD c.w o kvs) (lo : (d == sysModules) = false) (h : ∀ v, Q (.ref v) m ((v, vwO d) :: led)) : T c m led (call (.builtin "dict.values") [.ref d]) Q X := .mk fun hp tk R =>
  have hD : hp.DictOf (intKind pw c.w) d kvs := kda_dict (s := c.s hp tk) R.news hm hd
  call_meetsIn F.slot_dict_values hD.typeIs F.entry_dict_values (F.args_dict_values_1 _) (meets_dict_values (intKind pw c.w) d lo) ⟨⟨_, hD⟩, post_ok (R.push (vwO d) rfl) (h _)⟩
theorem T.itA_vals {v : Addr} (hh : c.A.handled = none) (hv : (v, vwO d) ∈ led) (hm : (d, o) ∈ led) (hd : IntD c.w o kvs)
    (h : ∀ I oI S, IterA c.w c.A I kvs.length (fun i v => ∃ k, kvs[i]? = some (k, v)) [(d, o)] S → S 0 oI → Q (.ref I) m ((I, oI) :: led)) : T c m led (pyIter (.ref v)) Q X := .mk fun hp tk R => by
  have ho : hp.get? d = some o := R.get hm
  have hne : d ≠ hp.objs.size := Nat.ne_of_lt (Heap.lt_size ho)
  obtain ⟨ep, ha⟩ := KdkAt.of hd
  refine wpAny_pyIter_values (s := c.s hp tk) (d := d) ⟨_, R.get hv, rfl, rfl⟩ (ha.dictAt ho) ?_
  have W := Walks.dictValues (prog := pw) (w := c.w) (A := c.A) (knd := intKind pw c.w) hh hp.objs.size d hne kvs ep
  have It : IterA c.w c.A hp.objs.size kvs.length (fun i v => ∃ k, kvs[i]? = some (k, v)) [(d, o)] _ := fun c' hw hA => Iter.of_walks (c := c') (ro := [(d, o)]) (by rw [hw, hA]; exact W) (by intro b hb; simp at hb; rcases hb with h | h; exact .inl h; exact .inr ⟨_, by rw [h]; exact .head _⟩) (by intro p hp; simp at hp; subst hp; exact hne)
    (fun i h st => by obtain ⟨⟨oo, h1, h2, _⟩, _⟩ := st; exact ⟨oo, _, h1, h2, by decide⟩)
  exact post_ok (R.push _ rfl) (h _ _ _ It ⟨⟨_, rfl, by decide⟩, fun h' e1 e2 => ⟨⟨_, e1, rfl, rfl⟩, ha.dictAt (e2 _ (.head _))⟩⟩)
theorem T.truthyN {Q : Bool → Loc → Led → Prop} (h : Q false m led) : T c m led (truthy .none) Q X := .mk fun _ _ R => (show wpAny _ _ (truthy Value.none) _ _ _ from wpAny_of_eq (a := false) rfl (post_ok R h))
theorem prepare_T {n : Nat} (G : Gd c (n + 2)) {x dx d : Addr} {o : Obj} {ks : Nat → Int × Tok} {po fi : Value} {nds : List Nd} {base : Led} {dom : List Nat} {np : Nat → Int} {sc : Nat → List Nat} (lo : (d == sysModules) = false) (S : Stt dom np sc nds) (hd : IntD c.w o (kvsOf nds.reverse)) (hup : ∀ k ∈ dom, ∀ s ∈ sc k, s ∈ dom ∧ k < s) (hdl : dom.length ≤ 20) (hscl : ∀ k, (sc k).length ≤ 100) (h0 : 0 ∈ dom) (hnp : ∀ k ∈ dom, np k = 0 ↔ k = 0)
    (h : ∀ rl us e, IntsAre us (nat2 [0]) → Q .none m (Core x dx d o ks (.ref rl) po fi nds ((rl, lst us e) :: base))) : T c m (Core x dx d o ks .none po fi nds base) (call (.ref 141) [.ref x]) Q X := by
  refine T.def [(Str.ofString "self", some (.ref x)), (Str.ofString "cycle", none)] G rfl (by kernel_rfl) (by kernel_rfl) (by kernel_rfl) rfl ?_
  intro c' hw G'
  rw [← hw] at hd
  wtm_at "c"
  wtm_at "c"
  refine T.test (by kernel_rfl) ?_
  refine T.attr (by with_unfolding_all rfl) ?_
  repeat' wtm_at "c"
  refine T.getA (x := x) (dx := dx) (v := .none) (od := srtO ks (.ref d) .none po fi) G' (by wtm_at "mem") (by wtm_at "mem") (srt_ga _) (by kernel_rfl) rfl ?_
  repeat' wtm_at "c"
  refine T.isNotNone rfl ?_
  repeat' wtm_at "c"
  rw [if_neg (by decide)]
  repeat' wtm_at "c"
  refine T.assignA (by kernel_rfl) ?_
  refine T.comp (cl := []) (by kernel_rfl) (by kernel_rfl) (by kernel_rfl) ?_
  refine T.mcall (by kernel_rfl) (by kernel_rfl) ?_
  refine T.attr (by with_unfolding_all rfl) ?_
  repeat' wtm_at "c"
  refine T.getA (x := x) (dx := dx) (v := .ref d) (od := srtO ks (.ref d) .none po fi) G' (by wtm_at "mem") (by wtm_at "mem") (srt_ga _) (by kernel_rfl) rfl ?_
  refine T.dvm (o := o) (by wtm_at "mem") hd ?_
  refine T.cwb ?_
  repeat' wtm_at "c"
  refine T.dvals (o := o) (by wtm_at "mem") hd lo fun vw => ?_
  refine T.itA_vals (o := o) (d := d) G'.hdl (by wtm_at "mem") (by wtm_at "mem") hd fun I oI S0 W hS => ?_
  have hlen : nds.length = dom.length := by rw [← S.keys]; simp
  refine TK.loop W hS G' 0 (fun _ => rfl) (fun c'' i m₁ us l₁ => ∃ o1, m₁ = [(Str.ofString ".0", none), (Str.ofString "i", o1)] ∧ l₁ = (vw, vwO d) :: Core x dx d o ks .none po fi nds base ∧ IntsAre us (nat2 (((dom.reverse.take i).filter fun k => k == 0)))) [(Str.ofString ".0", none), (Str.ofString "i", none)] (lookL_none rfl) ?_ ?_ ?_ ?_
  · rintro c'' i m₁ us l₁ ⟨_, _, rfl, _⟩ p hp
    rw [List.mem_singleton.mp hp]; exact .inl (by wtm_at "mem")
  · intro c'' _ _ _
    exact ⟨none, rfl, rfl, .nil⟩
  · rintro c'' i v oi acc us m₁ l₁ hcw2 hA2 G'' hst hi ⟨kz, hkv⟩ ⟨o1, rfl, rfl, hus⟩
    have hil : i < nds.reverse.length := by simpa [kvsOf] using hi
    obtain ⟨nd, hndi⟩ : ∃ nd, nds.reverse[i]? = some nd := ⟨_, List.getElem?_eq_getElem hil⟩
    have hn : nd ∈ nds := by simpa using List.mem_of_getElem? hndi
    have hv : v = .ref nd.x := by
      unfold kvsOf at hkv
      rw [List.getElem?_map, hndi] at hkv
      exact (congrArg Prod.snd (Option.some.inj hkv)).symm
    subst hv
    have hdi : dom.reverse[i]? = some nd.k := by
      rw [← S.keys, ← List.map_reverse, List.getElem?_map, hndi]; rfl
    have hkd : nd.k ∈ dom := by rw [← S.keys]; exact List.mem_map_of_mem hn
    refine T.asName ?_
    repeat' wtm_at "c"
    refine T.tests_one ?_
    refine T.test (by kernel_rfl) ?_
    refine T.attr (by with_unfolding_all rfl) ?_
    repeat' wtm_at "c"
    refine T.getNp (pre := [(I, oi), (acc, lst us us.length), (vw, vwO d)]) G'' hn ?_
    repeat' wtm_at "c"
    have husl := ints_len hus
    have hfl : ((dom.reverse.take i).filter fun k => k == 0).length ≤ dom.length := Nat.le_trans (List.length_filter_le ..) (by rw [List.length_take, List.length_reverse]; exact Nat.min_le_right ..)
    rw [take_snoc hdi, List.filter_append]
    have hnpk : (nd.np == 0) = (nd.k == 0) := by
      rw [S.np nd hn, Bool.eq_iff_iff, beq_iff_eq, beq_iff_eq]
      exact hnp nd.k hkd
    rw [hnpk]
    cases hb : (nd.k == 0) with
    | true =>
      rw [if_pos rfl]
      refine T.attr (by with_unfolding_all rfl) ?_
      repeat' wtm_at "c"
      refine T.getNk (pre := [(I, oi), (acc, lst us us.length), (vw, vwO d)]) G'' hn ?_
      refine ⟨by unfold sizeLine; omega, _, .refl _, _, rfl, rfl, ?_⟩
      rw [show List.filter (fun k => k == 0) [nd.k] = [nd.k] by simp [hb]]
      exact ints_snoc hus
    | false =>
      rw [if_neg Bool.false_ne_true]
      refine ⟨_, .refl _, _, rfl, rfl, ?_⟩
      rw [show List.filter (fun k => k == 0) [nd.k] = [] by simp [hb], List.append_nil]
      exact hus
  · rintro c'' acc m₁ us l₁ ⟨_, _, rfl, hus⟩
    have hl2 : (kvsOf nds.reverse).length = dom.reverse.length := by simp [kvsOf, hlen]
    rw [hl2, List.take_length, filter_one ((List.reverse_perm _).nodup_iff.mpr S.nodup) (by simpa using h0)] at hus
    repeat' wtm_at "c"
    refine T.setA (fun hs tk => [ent1 (ks 0) "_node2info" (.ref d), ent1 (ks 1) "_ready_nodes" (.ref acc), ent1 (ks 2) "_npassedout" po, ent1 (ks 3) "_nfinished" fi]) 4 G' (by wtm_at "mem") (srt_set _) (srt_over _) (by kernel_rfl) (srt_dict _) (by kernel_rfl) (fun _ _ => by kernel_rfl) (fun _ _ => by show 4 ≤ 1000; decide) (fun tk => by wtm_at "up") fun _ => ?_
    repeat' wtm_at "c"
    refine T.part (l' := Core x dx d o ks (.ref acc) po fi nds ((acc, lst us us.length) :: base)) ?_ ?_
    · refine Sub.perm (l := (acc, lst us us.length) :: Core x dx d o ks (.ref acc) po fi nds base) ⟨_, perm_core, .refl _⟩ (.refl _) |>.trans ?_
      exact .keep (.cons (.refl _))
    refine T.mcall (by kernel_rfl) (by kernel_rfl) ?_
    repeat' wtm_at "c"
    refine T.imethod (dx := dx) G' (by wtm_at "mem") (by wtm_at "mem") (by kernel_rfl) (f := 176) (by kernel_rfl) (by kernel_rfl) (by kernel_rfl) ?_
    refine T.cw G' (by kernel_rfl) ?_
    repeat' wtm_at "c"
    refine find_cycle_T G' lo S hd hup hdl hscl ?_
    repeat' wtm_at "c"
    refine T.truth rfl ?_
    repeat' wtm_at "c"
    refine T.truthyN ?_
    rw [if_neg (by decide)]
    repeat' wtm_at "c"
    exact ⟨_, .refl _, h acc us _ hus⟩
end
-- TD2
theorem ints_mk : ∀ {us : List Value} {ps : List Nat}, us.length = ps.length → (∀ (i : Nat) (v : Value), us[i]? = some v → ∃ t, v = Value.int (ps.getD i 0 : Nat) t) → IntsAre us (nat2 ps)
  | [], [], _, _ => .nil
  | [], _ :: _, h, _ => by cases h
  | _ :: _, [], h, _ => by cases h
  | a :: r, p :: q, h, k => by
    obtain ⟨t, e⟩ := k 0 a rfl
    have e' : a = .int (p : Nat) t := by simpa using e
    rw [e']
    refine .cons _ _ (ints_mk (by simpa using h) fun i v hv => ?_)
    obtain ⟨t2, e2⟩ := k (i + 1) v (by simpa using hv)
    exact ⟨t2, by simpa using e2⟩
section
variable {c : Cx} {m : Loc} {led : Led} {X : Value → Loc → Led → Prop} {Q : Value → Loc → Led → Prop} {env : Env}
theorem T.listR {r : Addr} {n : Nat} {t u v : Tok} (hh : c.A.handled = none) (hm : (r, rngO 0 (n : Nat) t u v) ∈ led) (hn : n < 1000) (h : ∀ a us e, IntsAre us (nat2 (List.range n)) → Q (.ref a) m ((a, lst us e) :: led)) : T c m led (call (.type "list") [.ref r]) Q X := .mk fun hp tk R => by
  refine call_list_range (s := c.s hp tk) (n := n) hh (R.get hm) (small_one (by omega) (by omega) (by omega) (by omega)) (by rw [rangeSize_nat]; simp) (by omega) fun h' tk' acc' c' hk hS hacc => ?_
  refine ⟨m, (hp.objs.size, lst acc'.toList c') :: led, h', tk', rfl, ?_, h _ _ _ ?_⟩
  · refine (R.all hk).add (by simpa using hS) (fun q => ?_) (Nat.ne_of_gt R.fr.ns.lt) (Heap.get?_none_of_le (Nat.le_trans R.fr.above (Nat.le_of_lt R.fr.ns.lt))) (fun q => ?_)
    · obtain ⟨p, hp2, e⟩ := List.mem_map.mp q
      have := Heap.lt_size (R.news p hp2).1
      rw [e] at this; exact Nat.lt_irrefl _ this
    · obtain ⟨p, hp2, e⟩ := List.mem_map.mp q
      obtain ⟨⟨sl, e2⟩, _⟩ := R.outs p hp2
      have := Heap.lt_size e2
      rw [e] at this; exact Nat.lt_irrefl _ this
  · refine ints_mk (by have := hacc.1; simpa using this) fun i v hv => ?_
    have hv' : acc'[i]? = some v := by simpa using hv
    have hlt : i < n := by have := (Array.getElem?_eq_some_iff.mp hv').1; have h2 := hacc.1; omega
    obtain ⟨t, e⟩ := hacc.2 i v hv'
    refine ⟨t, ?_⟩
    rw [e, List.getD_eq_getElem?_getD, List.getElem?_range hlt]
    simp
theorem T.setL {l : Addr} {vs : List Value} {n k : Nat} {t : Tok} {v : Value} {led' : Led} {Q : Unit → Loc → Led → Prop} (u : Up l (lst vs n) (lst (vs.set k v) n) led led') (hk : k < vs.length) (hsz : vs.length < 2 ^ 60) (h : Q () m led') : T c m led (setItem (.ref l) (.int (k : Nat) t) v) Q X := .mk fun hp tk R => by
  have ho := R.get u.mem
  refine ki_setAt (s := c.s hp tk) ho (by omega) (by omega) (by simp; omega) ?_
  refine post_ok (R.up u ?_ fun b x hb e => (Heap.SameBut.update ..).extBut b x hb e) h
  rw [Heap.get?_update_self _ ho rfl]
  show some (Obj.mapSeq _ _) = _
  simp [Obj.mapSeq]
theorem T.sortedT {x : Addr} {vs : List Value} {ns : List Int} (hm : (x, tup vs) ∈ led) (hi : IntsAre vs ns) (h64 : vs.length < 64) (h : ∀ a vs' ns' e, IntsAre vs' ns' → ns'.Perm ns → ns'.Pairwise (· ≤ ·) → Q (.ref a) m ((a, lst vs' e) :: led)) : T c m led (call (.builtin "sorted") [.ref x]) Q X := .mk fun hp tk R => by
  refine Calls.call_function_entry kind_sorted plain_sorted entry_sorted (args_sorted1 _) ?_
  unfold Builtin.«sorted»
  refine wpAny_bind (m := checkCount "sorted" 1 1 _) (wpAny_pure ?_)
  refine wpAny_bind (wpAny_collect_seq x (.inr rfl) (R.get hm) rfl rfl (fun h' hk => ?_) (by simp; unfold sizeLine; omega))
  refine wpAny_bind (wpAny_newList ?_)
  have R1 := (R.all hk).push (lst vs 0) rfl
  have hoL : (h'.push (lst vs 0)).get? h'.objs.size = some (seqObj "list" vs.toArray 0) := Heap.get?_push_size _ rfl
  refine wpAny_bind (wpAny_holding (wpAny_call_entry slot_list_sort ⟨_, hoL, rfl⟩ entry_list_sort (list_sort_tree hoL hi h64 fun out ns' a1 a2 a3 => ⟨_, rfl, ?_⟩) (args_list_sort _)))
  obtain ⟨e, he⟩ := sortedHeap_at (vs := vs) (n := 0) (out := out) hoL
  refine wpAny_pure ⟨_, rfl, ⟨m, (h'.objs.size, lst out.toList e) :: led, _, _, rfl, R1.head (by simpa using he) (fun b x hb q => ?_), h _ _ _ _ a1 a2 a3⟩⟩
  rw [sortedHeap_old hb (Heap.lt_size q)]; exact q
/-- a call with one starred argument, a tuple -/
theorem T.mcallS {o : Expr} {name : Str} {apos pos : Pos} {args : List Expr}
    (he : eval (.Call (.Attribute o name apos) args [] pos) env = (do
      let ov ← eval o env
      standAt apos.atName
      let (f, first) ← holding [ov] (getMethod ov name (mPl o env))
      callWith pos f first (backTo pos (starEach args env)) []))
    (h : T c m led (eval o env) (fun ov m₁ l₁ => T c m₁ l₁ (getMethod ov name (mPl o env)) (fun fx m₂ l₂ => T c m₂ l₂ (callWith pos fx.1 fx.2 (backTo pos (starEach args env)) []) Q X) X) X) : T c m led (eval (.Call (.Attribute o name apos) args [] pos) env) Q X := .mk fun hp tk R =>
  MethodCall_ (then_wp (h.run hp tk R) fun _ _ _ _ _ R₁ q₁ => then_wp (q₁.run _ _ R₁) fun _ _ _ _ _ R₂ q₂ => q₂.run _ _ R₂) he
end
-- TE2
inductive McStar (c : Cx) (name : Str) (env : Env) (e : Expr) (Q : Value → Loc → Led → Prop) (X : Value → Loc → Led → Prop) (ov : Value) (m₁ : Loc) (l₁ : Led) : Prop
  | mk (x C dx f : Addr) (es : List DictEntry) (k : Nat) (e1 : ov = .ref x) (hx : (x, instObj C dx) ∈ l₁) (hdx : (dx, dictOf es k) ∈ l₁) (a1 : plainGet c.K C name = true) (a2 : hasDictIn c.K C = true) (a3 : findIn c.K (.ref C) name = some (some (.ref f))) (a4 : isFn c.K (.ref f) = true) (a5 : fnIn c.K f = true)
      (a6 : specialIn c.K (.ref f) "__get__" = some (some (.builtin "function.__get__"))) (a7 : takesIn c.K (.ref f) = some false) (a8 : copiedNames.contains name = false) (a9 : getL name es = some none)
      (hq : ∀ q, T c m₁ ((q, methodObj (.ref f) (.ref x)) :: l₁) (eval e env) (fun v m₂ l₂ => ∃ a ws, v = .ref a ∧ (a, tup ws) ∈ l₂ ∧ (q, methodObj (.ref f) (.ref x)) ∈ l₂ ∧ ws.length ≤ sizeLine ∧ TD c m₂ l₂ (.ref f) (.ref x :: ws) Q) X)
section
variable {c : Cx} {m : Loc} {led : Led} {X : Value → Loc → Led → Prop} {Q : Value → Loc → Led → Prop} {env : Env}
/-- x.f(*t): the bound method is made, then called -/
theorem T.mcallStar {n : Nat} {o e : Expr} {name : Str} {apos pos p : Pos} (G : Gd c n)
    (he : eval (.Call (.Attribute o name apos) [.Starred e p] [] pos) env = (do
      let ov ← eval o env
      standAt apos.atName
      let (f, first) ← holding [ov] (do let f ← getAttr ov name true; Pure.pure (f, ([] : List Value)))
      let cp ← Pure.pure pos
      callWith cp f first (backTo pos (starEach [.Starred e p] env)) []))
    (hs : starEach [.Starred e p] env = [(true, eval e env)])
    (h : T c m led (eval o env) (McStar c name env e Q X) X) :
    T c m led (eval (.Call (.Attribute o name apos) [.Starred e p] [] pos) env) Q X := .mk fun hp tk R => by
  rw [he]
  refine wpAny_bind (then_wp (h.run hp tk R) fun ov m₁ l₁ h₁ tk₁ R₁ ⟨x, C, dx, f, es, k, e1, hx, hdx, a1, a2, a3, a4, a5, a6, a7, a8, a9, hq⟩ => ?_)
  subst e1
  refine wpAny_bind (wpAny_standAt (wpAny_bind (wpAny_holding (wpAny_bind ?_))))
  refine kbm_bound (s := c.s h₁ tk₁) (full_fr R₁) (Frag.In.keeps G.K (full_sub R₁)) (full_news R₁) (R₁.inst hx hdx) a1 a2 a3 a4 a6 a7 a8 a9 fun q h' F' N' hlt => ?_
  have nd : (((q, methodObj (.ref f) (.ref x)) :: l₁).map (·.1)).Nodup := by
    rw [List.map_cons, List.nodup_cons]
    refine ⟨fun y => ?_, R₁.nd⟩
    obtain ⟨p2, hp2, e2⟩ := List.mem_map.mp y
    have := hlt p2 hp2
    rw [e2] at this; exact Nat.lt_irrefl _ this
  have R₂ := R₁.of_full F' N' nd
  refine wpAny_pure (wpAny_bind (wpAny_pure ?_))
  show wpAny _ _ (callWith pos (.ref q) [] (backTo pos (starEach [.Starred e p] env)) []) _ _ _
  rw [hs]
  refine ks_call (P := MethP c.K q f (.ref x)) rfl (keeps_M a5) (ks_lone (then_wp ((hq q).run h' (tk₁ + 1) R₂) fun v m₂ l₂ h₂ tk₂ R₃ ⟨a, ws, ev, hm, hqm, hz, D⟩ => ?_))
  subst ev
  refine star_seq (ws := ws) (full_fr R₃) (full_news R₃) hm rfl rfl (.inr rfl) (by simp) (by simpa using hz) fun h₄ F₄ N₄ => ?_
  have R₅ := R₃.of_full F₄ N₄ R₃.nd
  refine ⟨⟨R₅.get hqm, Frag.In.keeps G.K R₅.fr.keep⟩, ?_⟩
  show wpAny _ _ (call (.ref q) ws) _ _ _
  refine wpAny_call (method_call (R₅.get hqm) ?_)
  refine codeAny_mono (D.run h₄ tk₂ c.A (Nat.le_succ _) (Nat.le_add_right _ _) G.hdl rfl R₅) fun r s' z => ?_
  rcases r with e | (v | _ | _ | _)
  all_goals first | exact z.elim | exact z
end
-- F17d
inductive DnJ1 (dom : List Nat) (sc : Nat → List Nat) (w : World) (x dx d rl ta : Addr) (o : Obj) (ks : Nat → Int × Tok) (po : Value) (fi : Int) (vs : List Value) (base : Led) (st : (Nat → Int) × List Nat) (i : Nat) (m₁ : Loc) (l₁ : Led) : Prop
  | mk (a1 a2 a3 a4 a5 : Option Value) (nds1 : List Nd) (us1 : List Value) (e1 : Nat) (t1 : Tok) (hm : m₁ = [(Str.ofString "self", some (.ref x)), (Str.ofString "nodes", some (.ref ta)), (Str.ofString "n2i", some (.ref d)), (Str.ofString "node", a1), (Str.ofString "nodeinfo", a2), (Str.ofString "stat", a3), (Str.ofString "successor", a4), (Str.ofString "successor_info", a5)]) (hS : Stt dom st.1 sc nds1) (hd : IntD w o (kvsOf nds1.reverse)) (hu : IntsAre us1 (nat2 st.2)) (hl : l₁ = Core x dx d o ks (.ref rl) po (.int (fi + (i : Nat)) t1) nds1 ((ta, tup vs) :: (rl, lst us1 e1) :: base))
inductive DnJ2 (dom : List Nat) (sc : Nat → List Nat) (w : World) (x dx d rl ta I : Addr) (o oi : Obj) (ks : Nat → Int × Tok) (po fiv rv : Value) (nd : Nd) (vs : List Value) (base : Led) (st : (Nat → Int) × List Nat) (m₁ : Loc) (l₁ : Led) : Prop
  | mk (a4 a5 : Option Value) (nds3 : List Nd) (us3 : List Value) (e3 : Nat) (hm : m₁ = [(Str.ofString "self", some (.ref x)), (Str.ofString "nodes", some (.ref ta)), (Str.ofString "n2i", some (.ref d)), (Str.ofString "node", some rv), (Str.ofString "nodeinfo", some (.ref nd.x)), (Str.ofString "stat", some (.int (-1) nd.tp)), (Str.ofString "successor", a4), (Str.ofString "successor_info", a5)]) (hS : Stt dom st.1 sc nds3) (hd : IntD w o (kvsOf nds3.reverse)) (hu : IntsAre us3 (nat2 st.2)) (hsl : (nd.s, lst nd.us nd.e) ∈ fl nds3) (hl : l₁ = Core x dx d o ks (.ref rl) po fiv nds3 ((I, oi) :: (ta, tup vs) :: (rl, lst us3 e3) :: base))
section
variable {c : Cx} {m : Loc} {led : Led} {X : Value → Loc → Led → Prop} {Q : Value → Loc → Led → Prop} {env : Env}
theorem TD.defV {n : Nat} {name qual : Str} {params : Arguments} {body : List Stmt} {scope : Scope} {dV kV doc pm cdv ct oc : Value} {an od : Option Addr} {osl : Array (Option Value)} {f : Addr} {args rest : List Value} {B : Value → List (Str × Value)} (m' : Addr → Loc)
    (G : Gd c (n + 2)) (ho : c.K.lookup f = some ⟨oc, od, .func (fnOf name qual params body scope dV kV doc pm an cdv ct), osl⟩) (hcd : codeIn c.K cdv qual = true)
    (hbind : bindArgs (fnOf name qual params body scope dV kV doc pm an cdv ct) ⟨args, []⟩ = (newTuple rest >>= fun t => Pure.pure (B t))) (hB : ∀ a, B (.ref a) = bindsOf (m' a)) (hsz : rest.length ≤ sizeLine)
    (hok : ∀ a, (okM (m' a) && ((bindsOf (m' a)).all fun x => decide (scope.names.lookup x.1 = some .local)) && !scope.isCoroutine && !scope.isGenerator && (scope.names.all fun x => x.2 != .cell)) = true) (hk : scope.kind = .function)
    (h : ∀ (c' : Cx) (a : Addr), c'.w = c.w → Gd c' n → T c' (m' a) ((a, tup rest) :: led) (execs body (envOf qual scope c'.L f cdv)) (fun fl _ l' => ∃ l'', Sub l'' l' ∧ Q (match fl with | .ret v => v | _ => .none) m l'') NoX) :
    TD c m led (.ref f) args Q := .mk fun hp tk A' hdp hun hhd hfr R => by
  have hok' := hok hp.objs.size
  simp only [Bool.and_eq_true, Bool.not_eq_true'] at hok'
  obtain ⟨⟨⟨⟨h1, hloc⟩, hco⟩, hgen⟩, hcell⟩ := hok'
  have hm : ∀ y, lookL y (m' hp.objs.size) = (bindsOf (m' hp.objs.size)).reverse.lookup y := fun y => by rw [lookup_reverse_nodup _ _ (bindsOf_nodup _ h1), lookup_filter y _ h1]
  have R1 := R.push (tup rest) rfl
  have kp : ∀ b o, c.h0.get? b = some o → hp.get? b = some o := R.fr.keep
  have hX : c.K.In hp := Frag.In.keeps G.K kp
  have d1 := G.depth
  refine (codeAny_call_function (fd := fnOf name qual params body scope dV kV doc pm an cdv ct) (body := body) (by omega) (hX _ _ ho) rfl hco hgen rfl (codeRec_of hX hcd) ?_)
  rw [hbind]
  refine wpAny_bind (wpAny_newTuple (wpAny_pure ?_) hsz)
  rw [hB]
  refine wpAny_newFunctionEnv (fun x hx => by have := List.all_eq_true.mp hcell x hx; simpa using this) (locs hloc) (fun h₁ hns hsb => ⟨(G.lim.keeps R1.fr.keep).fresh _ hsb, codeAny_func ?_⟩) hk
  have hk₁ : ∀ b o, (hp.push (tup rest)).get? b = some o → h₁.get? b = some o := fun b o e => hsb.extBut b o (Nat.ne_of_lt (Heap.lt_size e)) (Heap.get?_push_of_some _ e)
  have e1 : callEnv (fnOf name qual params body scope dV kV doc pm an cdv ct) (hp.push (tup rest)).objs.size f = envOf qual scope (hp.push (tup rest)).objs.size f cdv := rfl
  have hh := h (c.in (hp.push (tup rest)) ((hp.objs.size, tup rest) :: led) (A'.deeper (envOf qual scope (hp.push (tup rest)).objs.size f cdv))) hp.objs.size rfl (G.in2 R1 (by show A'.depth + 1 ≤ _; omega) (by show A'.units + 3 ≤ _; omega) hhd (.inr ⟨envOf qual scope (hp.push (tup rest)).objs.size f cdv, (by show A'.frames.map _ = _; rw [hfr]), (by show scope.kind ≠ _; rw [hk]; intro q; cases q), rfl⟩))
  have R₁ : Rep (c.in (hp.push (tup rest)) ((hp.objs.size, tup rest) :: led) (A'.deeper (envOf qual scope (hp.push (tup rest)).objs.size f cdv))) (m' hp.objs.size) ((hp.objs.size, tup rest) :: led) h₁ := by
    refine R1.enter ?_ hk₁
    have : (fun y => lookL y (m' hp.objs.size)) = fun y => (bindsOf (m' hp.objs.size)).reverse.lookup y := funext hm
    rw [this]; exact hns
  refine wpAny_mono (hh.run h₁ _ R₁) (fun fl s' ⟨m₂, l₂, h', tk', e, R', l3, hs, q⟩ => ?_) fun _ _ ⟨_, _, _, _, _, _, x⟩ => x.elim
  subst e
  exact ⟨_, _, h', tk', rfl, (R1.back R').sub hs, q⟩
theorem done_TD {n : Nat} (G : Gd c (n + 2)) {x dx d rl : Addr} {o : Obj} {ks : Nat → Int × Tok} {po : Value} {fi : Int} {tf : Tok} {nds : List Nd} {base : Led} {us vs : List Value} {e : Nat} {dom : List Nat} {np : Nat → Int} {sc : Nat → List Nat} {rs q : List Nat} (lo : (d == sysModules) = false) (S : Stt dom np sc nds) (hd : IntD c.w o (kvsOf nds.reverse)) (hv : IntsAre vs (nat2 rs)) (hu : IntsAre us (nat2 q)) (hin : ∀ r ∈ rs, r ∈ dom) (hsc : ∀ r ∈ rs, ∀ s ∈ sc r, s ∈ dom)
    (hout : ∀ i r, rs[i]? = some r → ((rs.take i).foldl (dStep sc) (np, q)).1 r = -1) (hsz : q.length + (rs.map fun r => (sc r).length).sum + rs.length < 1000)
    (h : ∀ nds' us' e' t', Stt dom (rs.foldl (dStep sc) (np, q)).1 sc nds' → IntD c.w o (kvsOf nds'.reverse) → IntsAre us' (nat2 (rs.foldl (dStep sc) (np, q)).2) → Q .none m (Core x dx d o ks (.ref rl) po (.int (fi + rs.length) t') nds' ((rl, lst us' e') :: base))) :
    TD c m (Core x dx d o ks (.ref rl) po (.int fi tf) nds ((rl, lst us e) :: base)) (.ref 169) (.ref x :: vs) Q := by
  have hvl := ints_len hv
  refine TD.defV (rest := vs) (fun a => [(Str.ofString "self", some (.ref x)), (Str.ofString "nodes", some (.ref a)), (Str.ofString "n2i", none), (Str.ofString "node", none), (Str.ofString "nodeinfo", none), (Str.ofString "stat", none), (Str.ofString "successor", none), (Str.ofString "successor_info", none)]) (B := fun t => [(Str.ofString "self", .ref x), (Str.ofString "nodes", t)]) G rfl (by kernel_rfl) (by cases vs <;> kernel_rfl) (fun a => rfl) (by unfold sizeLine; omega) (fun a => by kernel_rfl) rfl ?_
  intro c' ta hw G'
  rw [← hw] at hd h
  refine T.perm (led' := Core x dx d o ks (.ref rl) po (.int fi tf) nds ((ta, tup vs) :: (rl, lst us e) :: base)) perm_core ?_
  wtm_at "c"
  wtm_at "c"
  refine T.test (by kernel_rfl) ?_
  refine T.attr (by with_unfolding_all rfl) ?_
  repeat' wtm_at "c"
  refine T.getA (x := x) (dx := dx) (v := .ref rl) (od := srtO ks (.ref d) (.ref rl) po (.int fi tf)) G' (by wtm_at "mem") (by wtm_at "mem") (srt_ga _) (by kernel_rfl) rfl ?_
  repeat' wtm_at "c"
  refine T.isNone rfl ?_
  repeat' wtm_at "c"
  rw [if_neg (show ¬ ((Value.ref rl == Value.none) = true) from Bool.false_ne_true)]
  repeat' wtm_at "c"
  refine T.attr (by with_unfolding_all rfl) ?_
  repeat' wtm_at "c"
  refine T.getA (x := x) (dx := dx) (v := .ref d) (od := srtO ks (.ref d) (.ref rl) po (.int fi tf)) G' (by wtm_at "mem") (by wtm_at "mem") (srt_ga _) (by kernel_rfl) rfl ?_
  repeat' wtm_at "c"
  refine T.for (fun _ => rfl) ?_
  repeat' wtm_at "c"
  refine T.iter_tup (x := ta) (vs := vs) G'.hdl (fun p hp => ?_) fun I oI S0 W hS => ?_
  · rw [List.mem_singleton.mp hp]; exact .inl (by wtm_at "mem2")
  refine TC.for W hS (fun i m₁ l₁ => DnJ1 dom sc c'.w x dx d rl ta o ks po fi vs base ((rs.take i).foldl (dStep sc) (np, q)) i m₁ l₁) ?_ ?_ ?_ ?_
  · rintro i m₁ l₁ ⟨_, _, _, _, _, _, _, _, _, _, _, _, _, rfl⟩ p hp
    rw [List.mem_singleton.mp hp]; exact .inl (by wtm_at "mem2")
  · exact ⟨_, _, _, _, _, nds, us, e, tf, rfl, S, hd, hu, by simp⟩
  · rintro i v oi m₁ l₁ hi hvi ⟨a1, a2, a3, a4, a5, nds1, us1, e1, t1, rfl, S1, hd1, hu1, rfl⟩
    have hir : i < rs.length := by omega
    obtain ⟨tv, hat⟩ := ints_at hv hir
    rw [hvi] at hat; cases hat
    have hgd : rs[i]? = some (rs.getD i 0) := by rw [List.getD_eq_getElem?_getD, List.getElem?_eq_getElem hir]; rfl
    generalize rs.getD i 0 = r at hgd hvi ⊢
    have hrm := List.mem_of_getElem? hgd
    have hst := hout i r hgd
    have hql := dStep_len sc (rs.take i) (np, q)
    have hsum := sum_at (fun r => (sc r).length) hgd
    obtain ⟨nd, hn, hk⟩ := S1.get (hin r hrm)
    rw [take_snoc hgd, List.foldl_append, List.foldl_cons, List.foldl_nil]
    generalize (rs.take i).foldl (dStep sc) (np, q) = st at S1 hu1 hst hql ⊢
    obtain ⟨np1, q1⟩ := st
    dsimp only at S1 hu1 hst hql
    refine T.perm (led' := Core x dx d o ks (.ref rl) po (.int (fi + (i : Nat)) t1) nds1 ((I, oi) :: (ta, tup vs) :: (rl, lst us1 e1) :: base)) perm_core ?_
    refine T.asName ?_
    repeat' wtm_at "c"
    refine T.walrus ?_
    refine T.mcall (by kernel_rfl) (by kernel_rfl) ?_
    repeat' wtm_at "c"
    refine T.dgm (o := o) (by wtm_at "mem") hd1 ?_
    refine T.cwb ?_
    repeat' wtm_at "c"
    refine T.dget (o := o) (by wtm_at "mem") hd1 lo ?_
    have hva := va_some S1.keyed hn
    rw [hk] at hva
    rw [hva]
    refine T.asName ?_
    show T c' _ _ (storeName _ _ (.ref nd.x)) _ _
    repeat' wtm_at "c"
    refine T.isNone rfl ?_
    repeat' wtm_at "c"
    rw [if_neg (show ¬ (((some (Value.ref nd.x)).getD Value.none == Value.none) = true) from Bool.false_ne_true)]
    repeat' wtm_at "c"
    refine T.attr (by with_unfolding_all rfl) ?_
    repeat' wtm_at "c"
    refine T.getNp (pre := []) G' hn ?_
    repeat' wtm_at "c"
    obtain ⟨tout, hout'⟩ := g_OUT c'.w
    refine T.global G' hout' rfl rfl (by kernel_rfl) (by kernel_rfl) ?_
    have hnp : nd.np = -1 := by rw [S1.np nd hn, hk, hst]
    rw [hnp]
    repeat' wtm_at "c"
    rw [if_neg (by decide)]
    repeat' wtm_at "c"
    refine T.assignA (by kernel_rfl) ?_
    obtain ⟨tdn, hdn⟩ := g_DONE c'.w
    refine T.global G' hdn rfl rfl (by kernel_rfl) (by kernel_rfl) ?_
    repeat' wtm_at "c"
    refine T.setNp (pre := []) G' S1.keyed hn ?_
    have S2 := (S1.setnp hn (-2) tdn).ext (np' := fun k => if k = r then -2 else np1 k) fun k _ => by rw [hk]
    have hd2 := hd1.rep (p := -2) (q := tdn) S1.keyed hn
    have hsl : (nd.s, lst nd.us nd.e) ∈ fl (rep nds1 { nd with np := -2, tp := tdn }) := lst_stay S1.keyed hn (fl_mem hn).2.2
    have hsx : ({ nd with np := -2, tp := tdn } : Nd) ∈ rep nds1 { nd with np := -2, tp := tdn } := by
      unfold rep
      exact List.mem_map.mpr ⟨nd, hn, by rw [if_pos rfl]⟩
    have hscr := S1.sc nd hn
    rw [hk] at hscr
    generalize rep nds1 { nd with np := -2, tp := tdn } = nds2 at S2 hd2 hsl hsx ⊢
    repeat' wtm_at "c"
    refine T.for (fun _ => rfl) ?_
    refine T.attr (by with_unfolding_all rfl) ?_
    repeat' wtm_at "c"
    refine T.getSc (nd := { nd with np := -2, tp := tdn }) (pre := []) G' hsx ?_
    have hnul := ints_len hscr
    refine T.iter_list (x := nd.s) (vs := nd.us) (n := nd.e) G'.hdl (fun p hp => ?_) fun I2 oI2 S02 W2 hS2 => ?_
    · rw [List.mem_singleton.mp hp]; exact .inl (.tail _ (.tail _ (.tail _ (List.mem_append_left _ hsl))))
    refine TC.for W2 hS2 (fun j m₁ l₁ => DnJ2 dom sc c'.w x dx d rl ta I o oi ks po (.int (fi + (i : Nat)) t1) (.int (r : Nat) tv) nd vs base (((sc r).take j).foldl dStep1 ((fun k => if k = r then -2 else np1 k), q1)) m₁ l₁) ?_ ?_ ?_ ?_
    · rintro j m₁ l₁ ⟨_, _, _, _, _, _, _, _, _, hsl3, rfl⟩ p hp
      rw [List.mem_singleton.mp hp]; exact .inl (.tail _ (.tail _ (.tail _ (List.mem_append_left _ hsl3))))
    · exact ⟨_, _, nds2, us1, e1, rfl, S2, hd2, hu1, hsl, rfl⟩
    · rintro j w oj m₁ l₁ hj hwj ⟨a4, a5, nds3, us3, e3, rfl, S3, hd3, hu3, hsl3, rfl⟩
      have hjr : j < (sc r).length := by omega
      obtain ⟨tw, hat2⟩ := ints_at hscr hjr
      rw [hwj] at hat2; cases hat2
      have hgs : (sc r)[j]? = some ((sc r).getD j 0) := by rw [List.getD_eq_getElem?_getD, List.getElem?_eq_getElem hjr]; rfl
      generalize (sc r).getD j 0 = s at hgs hwj ⊢
      have hql3 := dStep1_len ((sc r).take j) ((fun k => if k = r then -2 else np1 k), q1)
      have hu3l := ints_len hu3
      rw [List.length_take] at hql3
      obtain ⟨nd3, hn3, hk3⟩ := S3.get (hsc r hrm s (List.mem_of_getElem? hgs))
      rw [take_snoc hgs, List.foldl_append, List.foldl_cons, List.foldl_nil]
      generalize ((sc r).take j).foldl dStep1 ((fun k => if k = r then -2 else np1 k), q1) = st3 at S3 hu3 hql3 hu3l ⊢
      obtain ⟨np3, q3⟩ := st3
      dsimp only at S3 hu3 hql3 hu3l
      refine T.perm (led' := Core x dx d o ks (.ref rl) po (.int (fi + (i : Nat)) t1) nds3 ((I2, oj) :: (I, oi) :: (ta, tup vs) :: (rl, lst us3 e3) :: base)) perm_core ?_
      refine T.asName ?_
      repeat' wtm_at "c"
      have hva3 := va_some S3.keyed hn3
      rw [hk3] at hva3
      refine T.ditem (o := o) (kvs := kvsOf nds3.reverse) (by wtm_at "mem") hd3 hva3 (by with_unfolding_all rfl) (by intro _; with_unfolding_all rfl) ?_
      repeat' wtm_at "c"
      refine T.augA ?_
      repeat' wtm_at "c"
      refine T.getNp (pre := []) G' hn3 ?_
      repeat' wtm_at "c"
      refine T.isub fun t5 => ?_
      refine T.setNp (pre := []) G' S3.keyed hn3 ?_
      have hnp3 : nd3.np = np3 s := by rw [S3.np nd3 hn3, hk3]
      rw [hnp3]
      have S4 := (S3.setnp hn3 (np3 s - 1) t5).ext (np' := fun k => if k = s then np3 s - 1 else np3 k) fun k _ => by rw [hk3]
      have hd4 := hd3.rep (p := np3 s - 1) (q := t5) S3.keyed hn3
      have hsl4 : (nd.s, lst nd.us nd.e) ∈ fl (rep nds3 { nd3 with np := np3 s - 1, tp := t5 }) := lst_stay S3.keyed hn3 hsl3
      have hsx4 : ({ nd3 with np := np3 s - 1, tp := t5 } : Nd) ∈ rep nds3 { nd3 with np := np3 s - 1, tp := t5 } := by
        unfold rep
        exact List.mem_map.mpr ⟨nd3, hn3, by rw [if_pos rfl]⟩
      generalize rep nds3 { nd3 with np := np3 s - 1, tp := t5 } = nds4 at S4 hd4 hsl4 hsx4 ⊢
      repeat' wtm_at "c"
      refine T.attr (by with_unfolding_all rfl) ?_
      repeat' wtm_at "c"
      refine T.getNp (nd := { nd3 with np := np3 s - 1, tp := t5 }) (pre := []) G' hsx4 ?_
      repeat' wtm_at "c"
      show if (((np3 s - 1 : Int) == 0) = true) then _ else _
      have hdd : dStep1 (np3, q3) s = ((fun k => if k = s then np3 s - 1 else np3 k), if np3 s - 1 = 0 then q3 ++ [s] else q3) := rfl
      by_cases hz : np3 s - 1 = 0
      · rw [if_pos (by simpa using hz)]
        repeat' wtm_at "c"
        refine T.mcall (by kernel_rfl) (by kernel_rfl) ?_
        refine T.attr (by with_unfolding_all rfl) ?_
        repeat' wtm_at "c"
        refine T.getA (x := x) (dx := dx) (v := .ref rl) (od := srtO ks (.ref d) (.ref rl) po (.int (fi + (i : Nat)) t1)) G' (by wtm_at "mem") (by wtm_at "mem") (srt_ga _) (by kernel_rfl) rfl ?_
        refine T.list_method (vs := us3) (n := e3) (by wtm_at "mem2") F.slot_list_append F.type_list_append ?_
        refine T.cwb ?_
        repeat' wtm_at "c"
        refine T.append (vs := us3) (n := e3) (led' := Core x dx d o ks (.ref rl) po (.int (fi + (i : Nat)) t1) nds4 ((I2, oj) :: (I, oi) :: (ta, tup vs) :: (rl, lst (us3 ++ [.int (s : Nat) tw]) (e3 + 1)) :: base)) (by wtm_at "up2") (by unfold sizeLine; omega) ?_
        repeat' wtm_at "c"
        rw [hdd, if_pos hz]
        exact ⟨_, perm_core.symm, _, _, nds4, _, _, rfl, S4, hd4, ints_snoc hu3, hsl4, rfl⟩
      · rw [if_neg (by simpa using hz)]
        repeat' wtm_at "c"
        rw [hdd, if_neg hz]
        exact ⟨_, perm_core.symm, _, _, nds4, _, _, rfl, S4, hd4, hu3, hsl4, rfl⟩
    · rintro m₁ l₁ ⟨a4, a5, nds3, us3, e3, rfl, S3, hd3, hu3, hsl3, rfl⟩
      rw [hnul, List.take_length] at S3 hu3
      repeat' wtm_at "c"
      refine T.augA ?_
      repeat' wtm_at "c"
      refine T.getA (x := x) (dx := dx) (v := .int (fi + (i : Nat)) t1) (od := srtO ks (.ref d) (.ref rl) po (.int (fi + (i : Nat)) t1)) G' (by wtm_at "mem") (by wtm_at "mem") (srt_ga _) (by kernel_rfl) rfl ?_
      repeat' wtm_at "c"
      refine T.iadd fun t6 => ?_
      refine T.setA (fun hs tk => [ent1 (ks 0) "_node2info" (.ref d), ent1 (ks 1) "_ready_nodes" (.ref rl), ent1 (ks 2) "_npassedout" po, ent1 (ks 3) "_nfinished" (.int (fi + (i : Nat) + 1) t6)]) 4 G' (by wtm_at "mem") (srt_set _) (srt_over _) (by kernel_rfl) (srt_dict _) (by kernel_rfl) (fun _ _ => by kernel_rfl) (fun _ _ => by show 4 ≤ 1000; decide) (fun tk => by wtm_at "up") fun _ => ?_
      repeat' wtm_at "c"
      refine ⟨_, perm_core.symm, _, _, _, _, _, nds3, us3, e3, t6, rfl, S3, hd3, hu3, ?_⟩
      rw [show fi + ((i + 1 : Nat) : Int) = fi + (i : Nat) + 1 by omega]
  · rintro m₁ l₁ ⟨a1, a2, a3, a4, a5, nds1, us1, e1, t1, rfl, S1, hd1, hu1, rfl⟩
    rw [hvl, List.take_length] at S1 hu1
    repeat' wtm_at "c"
    refine ⟨_, sub_core, ?_⟩
    rw [hvl]
    exact h nds1 us1 e1 t1 S1 hd1 hu1
end
-- P2
theorem sw_iff {x y : Str} : Txt.startswith x y = true ↔ y.cps.toList <+: x.cps.toList := by
  unfold Txt.startswith PySem.Builtin.Str.subAt
  rw [Bool.and_eq_true, decide_eq_true_iff, beq_iff_eq, List.prefix_iff_eq_take]
  have hy : y.length = y.cps.toList.length := by simp [Str.length]
  constructor
  · rintro ⟨h1, h2⟩
    have := congrArg Array.toList h2
    rw [Array.toList_extract] at this
    rw [← hy, ← this]
    simp
  · intro h
    have hl := congrArg List.length h
    rw [List.length_take] at hl
    refine ⟨?_, ?_⟩
    · have hx : x.length = x.cps.toList.length := by simp [Str.length]
      omega
    · apply Array.toList_inj.mp
      rw [Array.toList_extract]
      rw [h]
      simp [Str.length]
def chC (c : Nat) : Nat := ((Str.ofString "abcdefghij").cps[c]?).getD 0
def encT : List Nat → List Nat
  | [] => []
  | a :: r => chC a :: 47 :: encT r
theorem chC_inj : ∀ a, a < 10 → ∀ b, b < 10 → chC a = chC b → a = b := by decide +kernel
theorem chC_ne : ∀ a, a < 10 → chC a ≠ 120 := by decide +kernel
theorem encT_append : ∀ a b, encT (a ++ b) = encT a ++ encT b
  | [], b => rfl
  | x :: r, b => by show _ :: _ :: encT (r ++ b) = _; rw [encT_append r b]; rfl
theorem encT_len : ∀ a, (encT a).length = 2 * a.length
  | [] => rfl
  | x :: r => by show (encT r).length + 2 = _; rw [encT_len r, List.length_cons]; omega
theorem encT_prefix {t : List Nat} (ht : t.length ≤ 1) : ∀ (a b : List Nat), (∀ x ∈ a, x < 10) → (∀ x ∈ b, x < 10) → (encT a <+: encT b ++ t ↔ a <+: b)
  | [], b, _, _ => ⟨fun _ => List.nil_prefix, fun _ => List.nil_prefix⟩
  | x :: r, [], _, _ => by
    constructor
    · intro h
      have := h.length_le
      rw [List.length_append, encT_len, encT_len, List.length_cons] at this
      simp at this; omega
    · intro h
      have := h.length_le
      simp at this
  | x :: r, y :: s, ha, hb => by
    show chC x :: 47 :: encT r <+: chC y :: 47 :: (encT s ++ t) ↔ _
    rw [List.cons_prefix_cons, List.cons_prefix_cons, List.cons_prefix_cons, encT_prefix ht r s (fun z hz => ha z (.tail _ hz)) (fun z hz => hb z (.tail _ hz))]
    constructor
    · rintro ⟨h1, _, h2⟩
      exact ⟨chC_inj x (ha x (.head _)) y (hb y (.head _)) h1, h2⟩
    · rintro ⟨h1, h2⟩
      exact ⟨by rw [h1], rfl, h2⟩
def chain (ps : List Nat) (k : Nat) : List Nat := if h : ps.getD k 0 < k then chain ps (ps.getD k 0) ++ [k] else []
termination_by k
theorem chain_lt (ps : List Nat) (k : Nat) : ∀ x ∈ chain ps k, x ≤ k := by
  induction k using Nat.strongRecOn with
  | ind k ih =>
    intro x hx
    rw [chain] at hx
    split at hx
    · rename_i h
      rcases List.mem_append.mp hx with h1 | h1
      · have := ih _ h x h1; omega
      · rw [List.mem_singleton.mp h1]; exact Nat.le_refl _
    · cases hx
theorem path_enc (ps : List Nat) (k : Nat) : (pathOf ps k).cps.toList = 47 :: encT (chain ps k) := by
  induction k using Nat.strongRecOn with
  | ind k ih =>
    rw [pathOf, chain]
    split
    · rename_i h
      rw [encT_append]
      have h1 : ∀ a b : Str, (a ++ b).cps.toList = a.cps.toList ++ b.cps.toList := fun a b => by
        show (a.cps ++ b.cps).toList = _; simp
      rw [h1, h1, ih _ h]
      show (47 :: encT (chain ps (ps.getD k 0)) ++ [_]) ++ [47] = 47 :: (encT (chain ps (ps.getD k 0)) ++ [_, 47])
      simp [chC]
    · rfl
theorem path_len (ps : List Nat) (k : Nat) : (pathOf ps k).length = 1 + 2 * (chain ps k).length := by
  have := congrArg List.length (path_enc ps k)
  rw [List.length_cons, encT_len] at this
  have h2 : (pathOf ps k).length = (pathOf ps k).cps.toList.length := by simp [Str.length]
  omega
section
variable {ps : List Nat} (H : Tree ps) (hN : ps.length ≤ 10)
include H
theorem chain_zero : chain ps 0 = [] := by rw [chain, dif_neg (Nat.not_lt_zero _)]
theorem chain_pos {k : Nat} (h0 : k ≠ 0) (hk : k < ps.length) : chain ps k = chain ps (ps.getD k 0) ++ [k] := by rw [chain, dif_pos (H.lt k (by omega) hk)]
theorem chain_inj {i j : Nat} (hi : i < ps.length) (hj : j < ps.length) (h : chain ps i = chain ps j) : i = j := by
  by_cases hi0 : i = 0
  · subst hi0
    rw [chain_zero H] at h
    by_cases hj0 : j = 0
    · exact hj0.symm
    · rw [chain_pos H hj0 hj] at h; simp at h
  · rw [chain_pos H hi0 hi] at h
    by_cases hj0 : j = 0
    · subst hj0; rw [chain_zero H] at h; simp at h
    · rw [chain_pos H hj0 hj] at h
      have := (List.append_inj' h rfl).2
      simpa using this
theorem above_step {i j : Nat} (hi : i < ps.length) (hj : j < ps.length) (h : chain ps j <+: chain ps i) : j = i ∨ (i ≠ 0 ∧ chain ps j <+: chain ps (ps.getD i 0)) := by
  by_cases hi0 : i = 0
  · subst hi0
    rw [chain_zero H, List.prefix_nil] at h
    exact .inl (chain_inj H hj hi (by rw [h, chain_zero H]))
  · rw [chain_pos H hi0 hi, List.prefix_concat_iff] at h
    rcases h with h | h
    · exact .inl (chain_inj H hj hi (by rw [h, chain_pos H hi0 hi]))
    · exact .inr ⟨hi0, h⟩
end
def pickS (a : Option Str) (v : Str) : Option Str := if a = none ∨ a = some (Str.ofString "") then some v else a
def pick (vs : List Str) : Option Str := vs.foldl pickS none
def vsB (s : Str) (B : Nat) (rs : List (Str × Str)) : List Str := (rs.filter fun r => reach s r.1 == B).map (·.2)
def AInv (s : Str) (B : Nat) (l : List (Str × Str)) (st : Int × Option Str) : Prop := if vsB s B l = [] then st.1 < (B : Int) else st.1 = (B : Int) ∧ st.2 = pick (vsB s B l)
theorem pick_snoc (vs : List Str) (v : Str) : pick (vs ++ [v]) = pickS (pick vs) v := by unfold pick; rw [List.foldl_append]; rfl
theorem pick_some {vs : List Str} (h : vs ≠ []) : ∃ x, pick vs = some x := by
  have key : ∀ (l : List Str) (a : Option Str), (∃ x, a = some x) → ∃ x, l.foldl pickS a = some x := by
    intro l
    induction l with
    | nil => exact fun a h => h
    | cons v r ih =>
      intro a _
      refine ih _ ?_
      unfold pickS
      split
      · exact ⟨v, rfl⟩
      · rename_i h1
        cases a with
        | none => exact (h1 (.inl rfl)).elim
        | some x => exact ⟨x, rfl⟩
  cases vs with
  | nil => exact (h rfl).elim
  | cons v r =>
    refine key r (pickS none v) ?_
    exact ⟨v, by unfold pickS; rw [if_pos (.inl rfl)]⟩
theorem al_step {s : Str} {B : Nat} (hB : 0 < B) {l : List (Str × Str)} {st : Int × Option Str} {r : Str × Str} (hr : reach s r.1 ≤ B) (h : AInv s B l st) : AInv s B (l ++ [r]) (alStep s st r) := by
  have hv : vsB s B (l ++ [r]) = vsB s B l ++ if reach s r.1 = B then [r.2] else [] := by
    unfold vsB
    rw [List.filter_append, List.map_append]
    by_cases e : reach s r.1 = B
    · simp [e]
    · simp [e]
  unfold AInv at h ⊢
  rw [hv]
  by_cases e : reach s r.1 = B
  · rw [if_pos e]
    rw [if_neg (by simp)]
    have e' : ((reach s r.1 : Nat) : Int) = (B : Int) := by omega
    by_cases h0 : vsB s B l = []
    · rw [if_pos h0] at h
      rw [h0]
      unfold alStep
      rw [if_neg (by omega), if_pos (by omega), e']
      exact ⟨rfl, by rw [List.nil_append]; unfold pick; show _ = pickS none r.2; unfold pickS; rw [if_pos (.inl rfl)]⟩
    · rw [if_neg h0] at h
      obtain ⟨h1, h2⟩ := h
      obtain ⟨x, hx⟩ := pick_some h0
      rw [pick_snoc, ← h2]
      unfold alStep pickS
      rw [if_neg (by omega), if_neg (by omega)]
      by_cases hx0 : st.2 = some (Str.ofString "")
      · rw [if_pos ⟨by omega, hx0⟩, if_pos (.inr hx0)]
        exact ⟨h1, rfl⟩
      · rw [if_neg (fun q => hx0 q.2), if_neg (by
          rintro (q | q)
          · rw [h2, hx] at q; cases q
          · exact hx0 q)]
        exact ⟨h1, rfl⟩
  · rw [if_neg e, List.append_nil]
    have hlt : reach s r.1 < B := by omega
    by_cases h0 : vsB s B l = []
    · rw [if_pos h0] at h ⊢
      unfold alStep
      split
      · exact h
      · split
        · show ((reach s r.1 : Nat) : Int) < _; omega
        · split
          · exact h
          · exact h
    · rw [if_neg h0] at h ⊢
      obtain ⟨h1, h2⟩ := h
      unfold alStep
      by_cases hr0 : reach s r.1 = 0
      · rw [if_pos hr0]; exact ⟨h1, h2⟩
      · rw [if_neg hr0, if_neg (by omega), if_neg (fun q => by have := q.1; omega)]
        exact ⟨h1, h2⟩
theorem al_fold {s : Str} {B : Nat} (hB : 0 < B) : ∀ (rs l : List (Str × Str)) (st : Int × Option Str), (∀ r ∈ rs, reach s r.1 ≤ B) → AInv s B l st → AInv s B (l ++ rs) (rs.foldl (alStep s) st)
  | [], l, st, _, h => by rw [List.append_nil]; exact h
  | r :: rest, l, st, hr, h => by
    have := al_fold hB rest (l ++ [r]) (alStep s st r) (fun q hq => hr q (.tail _ hq)) (al_step hB (hr r (.head _)) h)
    rw [List.append_assoc] at this
    exact this
theorem allow_eq {s : Str} {B : Nat} (hB : 0 < B) {rs : List (Str × Str)} (h : ∀ r ∈ rs, reach s r.1 ≤ B) (hne : vsB s B rs ≠ []) : allow rs s = pick (vsB s B rs) := by
  have h0 : AInv s B [] (-1, none) := by unfold AInv; rw [if_pos (show vsB s B [] = [] from rfl)]; show (-1 : Int) < _; omega
  have := al_fold hB rs [] (-1, none) h h0
  rw [List.nil_append] at this
  unfold AInv at this
  rw [if_neg hne] at this
  exact this.2
theorem allow_none {s : Str} : ∀ {rs : List (Str × Str)}, (∀ r ∈ rs, reach s r.1 = 0) → allow rs s = none := by
  intro rs h
  unfold allow
  have : ∀ (rs : List (Str × Str)) (st : Int × Option Str), (∀ r ∈ rs, reach s r.1 = 0) → rs.foldl (alStep s) st = st := by
    intro rs
    induction rs with
    | nil => intro st _; rfl
    | cons r q ih =>
      intro st hr
      rw [List.foldl_cons]
      have : alStep s st r = st := by unfold alStep; rw [if_pos (hr r (.head _))]
      rw [this]
      exact ih st fun x hx => hr x (.tail _ hx)
  rw [this rs _ h]
def vN (md : Nat) : Str := if (md / 4096 % 16 == 4) = true then signs md else Str.ofString ""
theorem verd_eq (md : Nat) : verd (md : Int) = vN md := by
  unfold verd vN
  rw [isdir_eq, signs_eq]
theorem str_len (a b : Str) : (a ++ b).length = a.length + b.length := Str.length_append a b
theorem signs_ne (md : Nat) : signs md ≠ Str.ofString "" := by
  have key : ∀ (l : List (Nat × Nat × Str)) (t : Str), 0 < t.length → 0 < (l.foldl sgStep t).length := by
    intro l
    induction l with
    | nil => exact fun t h => h
    | cons p r ih =>
      intro t h
      refine ih _ ?_
      unfold sgStep
      rw [str_len, str_len, str_len]
      omega
  intro q
  have h1 := key (sgFigs md) (sgHead md) (by show 0 < 1; decide)
  have h2 : signs md = (sgFigs md).foldl sgStep (sgHead md) := rfl
  rw [← h2, q] at h1
  exact absurd h1 (by decide)
theorem headOf_cons (m : Nat) (r : List Nat) : headOf (m :: r) = if (m / 4096 % 16 == 4) = true then signs m else headOf r := by
  unfold headOf dirsOf
  rw [List.filter_cons]
  cases h : (m / 4096 % 16 == 4) with
  | true => rw [if_pos rfl, if_pos rfl]; rfl
  | false => rw [if_neg Bool.false_ne_true, if_neg Bool.false_ne_true]
theorem pick_own : ∀ (own : List Nat), own ≠ [] → pick (own.map vN) = some (headOf own) := by
  have stay : ∀ (l : List Str) (x : Str), x ≠ Str.ofString "" → l.foldl pickS (some x) = some x := by
    intro l
    induction l with
    | nil => intro x _; rfl
    | cons v r ih =>
      intro x hx
      rw [List.foldl_cons]
      have : pickS (some x) v = some x := by
        unfold pickS
        rw [if_neg]
        rintro (q | q)
        · cases q
        · exact hx (Option.some.inj q)
      rw [this]; exact ih x hx
  have key : ∀ (own : List Nat) (a : Option Str), (a = none ∨ a = some (Str.ofString "")) → own ≠ [] → (own.map vN).foldl pickS a = some (headOf own) := by
    intro own
    induction own with
    | nil => intro a _ h; exact (h rfl).elim
    | cons m r ih =>
      intro a ha _
      rw [List.map_cons, List.foldl_cons, headOf_cons]
      have h1 : pickS a (vN m) = some (vN m) := by unfold pickS; rw [if_pos ha]
      rw [h1]
      cases hd : (m / 4096 % 16 == 4) with
      | true =>
        have : vN m = signs m := by unfold vN; rw [if_pos hd]
        rw [if_pos rfl, this]
        exact stay _ _ (signs_ne m)
      | false =>
        have : vN m = Str.ofString "" := by unfold vN; rw [if_neg (by rw [hd]; exact Bool.false_ne_true)]
        rw [if_neg Bool.false_ne_true, this]
        cases r with
        | nil => rfl
        | cons m2 r2 => exact ih _ (.inr rfl) (by simp)
  exact fun own h => key own none (.inl rfl) h
theorem reach_path {ps : List Nat} (hN : ps.length ≤ 10) {s : Str} {i j : Nat} (hi : i < ps.length) (hj : j < ps.length) {t : List Nat} (ht : t.length ≤ 1) (hs : s.cps.toList = 47 :: (encT (chain ps i) ++ t)) : reach s (pathOf ps j) = if chain ps j <+: chain ps i then 2 + 2 * (chain ps j).length else 0 := by
  have key : Txt.startswith s (pathOf ps j) = true ↔ chain ps j <+: chain ps i := by
    rw [sw_iff, hs, path_enc, List.cons_prefix_cons]
    have := encT_prefix ht (chain ps j) (chain ps i) (fun x hx => by have := chain_lt ps j x hx; omega) (fun x hx => by have := chain_lt ps i x hx; omega)
    rw [this]
    exact ⟨fun h => h.2, fun h => ⟨rfl, h⟩⟩
  unfold reach
  rw [path_len]
  by_cases h : chain ps j <+: chain ps i
  · rw [if_pos (key.mpr h), if_pos h]; omega
  · rw [if_neg (fun q => h (key.mp q)), if_neg h]
def near (ps : List Nat) (ms : List (Nat × Nat)) (k : Nat) : Nat := if ownOf ms k = [] then (if h : ps.getD k 0 < k then near ps ms (ps.getD k 0) else k) else k
termination_by k
theorem near_spec {ps : List Nat} {ms : List (Nat × Nat)} (H : TreeOk ps ms) (i : Nat) : i < ps.length → near ps ms i < ps.length ∧ ownOf ms (near ps ms i) ≠ [] ∧ chain ps (near ps ms i) <+: chain ps i ∧ climbed ps ms i = headOf (ownOf ms (near ps ms i)) ∧ ∀ j, j < ps.length → ownOf ms j ≠ [] → chain ps j <+: chain ps i → (chain ps j).length ≤ (chain ps (near ps ms i)).length ∧ ((chain ps j).length = (chain ps (near ps ms i)).length → j = near ps ms i) := by
  induction i using Nat.strongRecOn with
  | ind i ih =>
    intro hi
    by_cases ho : ownOf ms i = []
    · have h0 : i ≠ 0 := fun q => by
        obtain ⟨md, hmd⟩ := H.root
        have : md ∈ ownOf ms i := by
          unfold ownOf
          exact List.mem_map.mpr ⟨(0, md), List.mem_filter.mpr ⟨hmd, by simp [q]⟩, rfl⟩
        rw [ho] at this; cases this
      have hlt := H.tree.lt i (by omega) hi
      obtain ⟨h1, h2, h3, h4, h5⟩ := ih _ hlt (by omega)
      have en : near ps ms i = near ps ms (ps.getD i 0) := by rw [near.eq_1 ps ms i, if_pos ho, dif_pos hlt]
      have ec : climbed ps ms i = climbed ps ms (ps.getD i 0) := by rw [climbed.eq_1 ps ms i, if_pos ho, dif_pos hlt]
      rw [en, ec]
      refine ⟨h1, h2, ?_, h4, fun j hj hoj hc => ?_⟩
      · rw [chain_pos H.tree h0 hi]
        exact h3.trans (List.prefix_append _ _)
      · rcases above_step H.tree hi hj hc with q | ⟨_, q⟩
        · rw [q] at hoj; exact (hoj ho).elim
        · exact h5 j hj hoj q
    · have en : near ps ms i = i := by rw [near.eq_1 ps ms i, if_neg ho]
      have ec : climbed ps ms i = headOf (ownOf ms i) := by rw [climbed.eq_1 ps ms i, if_neg ho]
      rw [en]
      refine ⟨hi, ho, List.prefix_refl _, ec, fun j hj _ hc => ⟨hc.length_le, fun e => chain_inj H.tree hj hi ?_⟩⟩
      exact hc.eq_of_length e
theorem allow_whole {ps : List Nat} {ms : List (Nat × Nat)} (H : TreeOk ps ms) {s : Str} {i : Nat} (hi : i < ps.length) {t : List Nat} (ht : t.length ≤ 1) (hs : s.cps.toList = 47 :: (encT (chain ps i) ++ t)) : allow (ms.map fun p => (pathOf ps p.1, vN p.2)) s = some (climbed ps ms i) := by
  obtain ⟨h1, h2, h3, h4, h5⟩ := near_spec H i hi
  have hnj : ∀ p ∈ ms, p.1 < ps.length := H.nodes
  have hoj : ∀ p ∈ ms, ownOf ms p.1 ≠ [] := fun p hp q => by
    have : p.2 ∈ ownOf ms p.1 := by
      unfold ownOf
      exact List.mem_map.mpr ⟨p, List.mem_filter.mpr ⟨hp, by simp⟩, rfl⟩
    rw [q] at this; cases this
  have hr : ∀ p ∈ ms, reach s (pathOf ps p.1) = if chain ps p.1 <+: chain ps i then 2 + 2 * (chain ps p.1).length else 0 := fun p hp => reach_path H.hi hi (hnj p hp) ht hs
  have hv : vsB s (2 + 2 * (chain ps (near ps ms i)).length) (ms.map fun p => (pathOf ps p.1, vN p.2)) = (ownOf ms (near ps ms i)).map vN := by
    unfold vsB ownOf
    rw [List.filter_map, List.map_map, List.map_map]
    have : ms.filter ((fun r : Str × Str => reach s r.1 == 2 + 2 * (chain ps (near ps ms i)).length) ∘ fun p => (pathOf ps p.1, vN p.2)) = ms.filter fun p => p.1 == near ps ms i := List.filter_congr fun p hp => by
      show (reach s (pathOf ps p.1) == _) = _
      rw [Bool.eq_iff_iff, beq_iff_eq, beq_iff_eq, hr p hp]
      constructor
      · intro q
        split at q
        · rename_i hc
          exact (h5 p.1 (hnj p hp) (hoj p hp) hc).2 (by omega)
        · omega
      · intro q
        rw [q, if_pos h3]
    rw [this]
    rfl
  rw [allow_eq (B := 2 + 2 * (chain ps (near ps ms i)).length) (by omega) (fun r hr2 => ?_) (by rw [hv]; simpa using h2), hv, pick_own _ h2, h4]
  obtain ⟨p, hp, rfl⟩ := List.mem_map.mp hr2
  show reach s (pathOf ps p.1) ≤ _
  rw [hr p hp]
  split
  · rename_i hc
    have := (h5 p.1 (hnj p hp) (hoj p hp) hc).1
    omega
  · omega
theorem allow_own {ps : List Nat} {ms : List (Nat × Nat)} (H : TreeOk ps ms) {i : Nat} (hi : i < ps.length) {K : Str} (hK : i ≠ 0 → K = climbed ps ms (ps.getD i 0)) : allow ((ownOf ms i).map (fun md => (pathOf ps i, vN md)) ++ if i = 0 then [] else [(pathOf ps (ps.getD i 0), K)]) (pathOf ps i) = some (climbed ps ms i) := by
  have hs : (pathOf ps i).cps.toList = 47 :: (encT (chain ps i) ++ []) := by rw [List.append_nil]; exact path_enc ps i
  have hri : reach (pathOf ps i) (pathOf ps i) = 2 + 2 * (chain ps i).length := by rw [reach_path H.hi hi hi (by decide) hs, if_pos (List.prefix_refl _)]
  by_cases ho : ownOf ms i = []
  · have h0 : i ≠ 0 := fun q => by
      obtain ⟨md, hmd⟩ := H.root
      have : md ∈ ownOf ms i := by
        unfold ownOf
        exact List.mem_map.mpr ⟨(0, md), List.mem_filter.mpr ⟨hmd, by simp [q]⟩, rfl⟩
      rw [ho] at this; cases this
    have hlt := H.tree.lt i (by omega) hi
    have hrp : reach (pathOf ps i) (pathOf ps (ps.getD i 0)) = 2 + 2 * (chain ps (ps.getD i 0)).length := by
      rw [reach_path H.hi hi (by omega) (by decide) hs, if_pos (by rw [chain_pos H.tree h0 hi]; exact List.prefix_append _ _)]
    rw [ho, if_neg h0, List.map_nil, List.nil_append]
    have hv : vsB (pathOf ps i) (2 + 2 * (chain ps (ps.getD i 0)).length) [(pathOf ps (ps.getD i 0), K)] = [K] := by
      unfold vsB
      rw [List.filter_cons, if_pos (by show (reach _ (pathOf ps (ps.getD i 0)) == _) = true; rw [hrp]; exact beq_self_eq_true _)]
      rfl
    rw [allow_eq (B := 2 + 2 * (chain ps (ps.getD i 0)).length) (by omega) (fun r hr => by rw [List.mem_singleton.mp hr]; exact Nat.le_of_eq hrp) (by rw [hv]; simp), hv, hK h0, climbed.eq_1 ps ms i, if_pos ho, dif_pos hlt]
    rfl
  · have hrs : ∀ r ∈ ((ownOf ms i).map (fun md => (pathOf ps i, vN md)) ++ if i = 0 then [] else [(pathOf ps (ps.getD i 0), K)]), reach (pathOf ps i) r.1 ≤ 2 + 2 * (chain ps i).length := fun r hr => by
      rcases List.mem_append.mp hr with q | q
      · obtain ⟨md, _, rfl⟩ := List.mem_map.mp q
        exact Nat.le_of_eq hri
      · split at q
        · cases q
        · rename_i h0
          rw [List.mem_singleton.mp q]
          have hlt := H.tree.lt i (by omega) hi
          show reach _ (pathOf ps (ps.getD i 0)) ≤ _
          rw [reach_path H.hi hi (by omega) (by decide) hs]
          split
          · rw [chain_pos H.tree h0 hi, List.length_append]; omega
          · omega
    have hv : vsB (pathOf ps i) (2 + 2 * (chain ps i).length) ((ownOf ms i).map (fun md => (pathOf ps i, vN md)) ++ if i = 0 then [] else [(pathOf ps (ps.getD i 0), K)]) = (ownOf ms i).map vN := by
      unfold vsB
      rw [List.filter_append, List.map_append]
      have e1 : ((ownOf ms i).map (fun md => (pathOf ps i, vN md))).filter (fun r => reach (pathOf ps i) r.1 == 2 + 2 * (chain ps i).length) = (ownOf ms i).map (fun md => (pathOf ps i, vN md)) := List.filter_eq_self.mpr fun r hr => by
        obtain ⟨md, _, rfl⟩ := List.mem_map.mp hr
        simp [hri]
      have e2 : (if i = 0 then [] else [(pathOf ps (ps.getD i 0), K)]).filter (fun r => reach (pathOf ps i) r.1 == 2 + 2 * (chain ps i).length) = [] := List.filter_eq_nil_iff.mpr fun r hr q => by
        split at hr
        · cases hr
        · rename_i h0
          rw [List.mem_singleton.mp hr] at q
          have hlt := H.tree.lt i (by omega) hi
          have q' := beq_iff_eq.mp q
          have hq2 : reach (pathOf ps i) (pathOf ps (ps.getD i 0)) = 2 + 2 * (chain ps i).length := q'
          rw [reach_path H.hi hi (by omega) (by decide) hs, chain_pos H.tree h0 hi, List.length_append] at hq2
          split at hq2
          · rw [List.length_singleton] at hq2; omega
          · omega
      rw [e1, e2, List.map_map]
      simp
    rw [allow_eq (B := 2 + 2 * (chain ps i).length) (by omega) hrs (by rw [hv]; simpa using ho), hv, pick_own _ ho, climbed.eq_1 ps ms i, if_neg ho]
-- P3
theorem g_no_list (w : World) : nsIn (kk.heap_1 w.params) mainGlobals (Str.ofString "list") = some none := by kernel_rfl
theorem g_no_sorted (w : World) : nsIn (kk.heap_1 w.params) mainGlobals (Str.ofString "sorted") = some none := by kernel_rfl
theorem b_list : bootBuiltins (Str.ofString "list") = some (.type "list") := by boot_by_name
theorem b_sorted : bootBuiltins (Str.ofString "sorted") = some (.builtin "sorted") := by boot_by_name
theorem g_rule (w : World) : nsIn (kk.heap_1 w.params) mainGlobals (Str.ofString "_law_rule") = some (some (.ref 272)) := by kernel_rfl
theorem g_record (w : World) : nsIn (kk.heap_1 w.params) mainGlobals (Str.ofString "_law_record") = some (some (.ref 279)) := by kernel_rfl
theorem g_verdict (w : World) : nsIn (kk.heap_1 w.params) mainGlobals (Str.ofString "_law_verdict") = some (some (.ref 286)) := by kernel_rfl
theorem nodup_take {l : List Nat} (h : l.Nodup) {i k : Nat} (hk : l[i]? = some k) : k ∉ l.take i := fun q => by
  have e : l = l.take i ++ l.drop i := (List.take_append_drop i l).symm
  rw [e, List.nodup_append] at h
  have hm : k ∈ l.drop i := by
    have : (l.drop i)[0]? = some k := by rw [List.getElem?_drop]; simpa using hk
    exact List.mem_of_getElem? this
  exact h.2.2 k q k hm rfl
def rot (N tr : Nat) : List Nat := (List.range N).drop tr ++ (List.range N).take tr
theorem rot_perm (N tr : Nat) : (rot N tr).Perm (List.range N) := by
  unfold rot
  exact List.perm_append_comm.trans (by rw [List.take_append_drop])
theorem rot_nodup (N tr : Nat) : (rot N tr).Nodup := (rot_perm N tr).nodup_iff.mpr List.nodup_range
theorem rot_mem {N tr k : Nat} : k ∈ rot N tr ↔ k < N := by rw [(rot_perm N tr).mem_iff, List.mem_range]
def scOf (ps : List Nat) (tr : Nat) (p : Nat) : List Nat := (rot ps.length tr).filter fun j => decide (j ≠ 0 ∧ ps.getD j 0 = p)
theorem Adds.stt {ps : List Nat} {tr : Nat} {nds : List Nd} (A : Adds (fun k => ps.getD k 0) ps.length (rot ps.length tr) (rot ps.length tr) nds) : Stt (nds.map (·.k)) (fun k => if k = 0 then 0 else 1) (scOf ps tr) nds :=
  ⟨rfl, A.keyed, fun nd hn => by
    rw [A.np nd hn]
    have : nd.k ∈ rot ps.length tr := rot_mem.mpr (A.bound nd hn)
    by_cases h0 : nd.k = 0
    · simp [h0]
    · simp [h0, this], fun nd hn => A.sc nd hn⟩
theorem Adds.dom {ps : List Nat} {tr : Nat} {nds : List Nd} (A : Adds (fun k => ps.getD k 0) ps.length (rot ps.length tr) (rot ps.length tr) nds) (k : Nat) : k ∈ nds.map (·.k) ↔ k < ps.length := by
  constructor
  · intro h
    obtain ⟨nd, hn, rfl⟩ := List.mem_map.mp h
    exact A.bound nd hn
  · intro h
    obtain ⟨nd, hn, rfl⟩ := A.has k (rot_mem.mpr h)
    exact List.mem_map_of_mem hn
theorem scOf_len (ps : List Nat) (tr p : Nat) : (scOf ps tr p).length ≤ ps.length := by
  unfold scOf
  refine Nat.le_trans (List.length_filter_le ..) ?_
  rw [(rot_perm _ _).length_eq, List.length_range]
  exact Nat.le_refl _
theorem scOf_mem {ps : List Nat} {tr p s : Nat} : s ∈ scOf ps tr p ↔ s < ps.length ∧ s ≠ 0 ∧ ps.getD s 0 = p := by
  unfold scOf
  rw [List.mem_filter, rot_mem]
  simp
theorem sub_mid {a b c : Addr × Obj} {f X Y : Led} (h : Sub Y X) : Sub (a :: b :: c :: (f ++ Y)) (a :: b :: c :: (f ++ X)) := .keep (.keep (.keep (.left h)))
theorem sub_in1 {p a b c : Addr × Obj} {f base : Led} : Sub (a :: b :: c :: (f ++ (p :: base))) (p :: a :: b :: c :: (f ++ base)) := ⟨_, perm_core, .refl _⟩
theorem sub_in2 {p q a b c : Addr × Obj} {f base : Led} : Sub (a :: b :: c :: (f ++ (p :: q :: base))) (p :: q :: a :: b :: c :: (f ++ base)) := ⟨_, perm_core.trans (perm_core.cons _), .refl _⟩
def npAt (ps : List Nat) (D : Nat) (k : Nat) : Int := if dep ps k < D then -2 else if dep ps k = D then 0 else 1
theorem dep_zero {ps : List Nat} (H : Tree ps) {k : Nat} (hk : k < ps.length) : dep ps k = 0 ↔ k = 0 := by
  constructor
  · intro h
    rcases Nat.eq_zero_or_pos k with h0 | h0
    · exact h0
    · rw [dep, dif_pos (H.lt k h0 hk)] at h; omega
  · intro h
    subst h
    have := dep_le ps 0
    omega
theorem dep_par {ps : List Nat} (H : Tree ps) {k : Nat} (hk : k < ps.length) (h0 : k ≠ 0) : dep ps k = dep ps (ps.getD k 0) + 1 := by
  rw [dep, dif_pos (H.lt k (by omega) hk)]
theorem round_zero {ps : List Nat} (H : Tree ps) : roundAt ps 0 = [0] := by
  unfold roundAt
  have : ∀ k ∈ List.range ps.length, (dep ps k == 0) = (k == 0) := fun k hk => by
    rw [Bool.eq_iff_iff, beq_iff_eq, beq_iff_eq]
    exact dep_zero H (List.mem_range.mp hk)
  rw [List.filter_congr this]
  exact filter_one List.nodup_range (List.mem_range.mpr H.pos)
theorem round_mem {ps : List Nat} {d k : Nat} : k ∈ roundAt ps d ↔ k < ps.length ∧ dep ps k = d := by
  unfold roundAt
  rw [List.mem_filter, List.mem_range, beq_iff_eq]
theorem dep_lt {ps : List Nat} (H : Tree ps) {D : Nat} (hD : roundAt ps D = []) : ∀ k, k < ps.length → dep ps k < D := by
  intro k
  induction k using Nat.strongRecOn with
  | ind k ih =>
    intro hk
    by_cases h0 : k = 0
    · subst h0
      have h1 := (dep_zero H hk).mpr rfl
      rcases Nat.eq_zero_or_pos D with q | q
      · subst q
        have : 0 ∈ roundAt ps 0 := round_mem.mpr ⟨hk, h1⟩
        rw [hD] at this; cases this
      · omega
    · have hlt := H.lt k (by omega) hk
      have h1 := ih _ hlt (by omega)
      have h2 := dep_par H hk h0
      rcases Nat.lt_or_ge (dep ps k) D with q | q
      · exact q
      · have : k ∈ roundAt ps D := round_mem.mpr ⟨hk, by omega⟩
        rw [hD] at this; cases this
abbrev runM (l ml x nl kl rol : Addr) (tr : Value) (a b : Option Value) : Loc := [(Str.ofString "parents", some (.ref l)), (Str.ofString "modes", some (.ref ml)), (Str.ofString "turn", some tr), (Str.ofString "sorter", some (.ref x)), (Str.ofString "nodes", some (.ref nl)), (Str.ofString "kept", some (.ref kl)), (Str.ofString "rounds", some (.ref rol)), (Str.ofString "ready", a), (Str.ofString "lines", b)]
theorem d1_fold : ∀ (l : List Nat) (np : Nat → Int) (r0 : List Nat), l.Nodup → (∀ s ∈ l, np s = 1) → (l.foldl dStep1 (np, r0)).2 = r0 ++ l ∧ ∀ k, (l.foldl dStep1 (np, r0)).1 k = if k ∈ l then 0 else np k
  | [], np, r0, _, _ => ⟨by simp, fun k => by simp⟩
  | s :: r, np, r0, nd, h => by
    rw [List.nodup_cons] at nd
    have h1 := h s (.head _)
    have e : dStep1 (np, r0) s = ((fun k => if k = s then 0 else np k), r0 ++ [s]) := by
      have h2 : np s - 1 = 0 := by omega
      have e1 : (dStep1 (np, r0) s).1 = fun k => if k = s then 0 else np k := by
        show (fun k => if k = s then np s - 1 else np k) = _
        rw [h2]
      have e2 : (dStep1 (np, r0) s).2 = r0 ++ [s] := by
        show (if np s - 1 = 0 then r0 ++ [s] else r0) = _
        exact if_pos h2
      exact Prod.ext e1 e2
    rw [List.foldl_cons, e]
    obtain ⟨a, b⟩ := d1_fold r (fun k => if k = s then 0 else np k) (r0 ++ [s]) nd.2 fun x hx => by
      have : x ≠ s := fun q => nd.1 (q ▸ hx)
      show (if x = s then 0 else np x) = 1
      rw [if_neg this]; exact h x (.tail _ hx)
    refine ⟨by rw [a]; simp, fun k => ?_⟩
    rw [b]
    by_cases hk : k ∈ r
    · simp [hk]
    · by_cases hs : k = s
      · simp [hs]
      · simp [hk, hs]
theorem d_fold (sc : Nat → List Nat) : ∀ (q : List Nat) (np : Nat → Int) (r0 : List Nat), q.Nodup → (q.flatMap sc).Nodup → (∀ s ∈ q.flatMap sc, s ∉ q ∧ np s = 1) → (q.foldl (dStep sc) (np, r0)).2 = r0 ++ q.flatMap sc ∧ ∀ k, (q.foldl (dStep sc) (np, r0)).1 k = if k ∈ q then -2 else if k ∈ q.flatMap sc then 0 else np k
  | [], np, r0, _, _, _ => ⟨by simp, fun k => by simp⟩
  | a :: r, np, r0, nd, nf, h => by
    rw [List.nodup_cons] at nd
    rw [List.flatMap_cons, List.nodup_append] at nf
    obtain ⟨n1, n2, n3⟩ := nf
    have hs1 : ∀ s ∈ sc a, (if s = a then (-2 : Int) else np s) = 1 := fun s hs => by
      obtain ⟨x1, x2⟩ := h s (by rw [List.flatMap_cons]; exact List.mem_append_left _ hs)
      rw [if_neg (fun q => x1 (by rw [q]; exact .head _))]; exact x2
    obtain ⟨a1, a2⟩ := d1_fold (sc a) (fun k => if k = a then -2 else np k) r0 n1 hs1
    have e : dStep sc (np, r0) a = (sc a).foldl dStep1 ((fun k => if k = a then -2 else np k), r0) := rfl
    rw [List.foldl_cons, e]
    generalize (sc a).foldl dStep1 ((fun k => if k = a then -2 else np k), r0) = st at a1 a2
    obtain ⟨np1, r1⟩ := st
    dsimp only at a1 a2
    obtain ⟨b1, b2⟩ := d_fold sc r np1 r1 nd.2 n2 fun s hs => by
      obtain ⟨x1, x2⟩ := h s (by rw [List.flatMap_cons]; exact List.mem_append_right _ hs)
      refine ⟨fun q => x1 (.tail _ q), ?_⟩
      rw [a2, if_neg (fun q => n3 s q s hs rfl), if_neg (fun q => x1 (by rw [q]; exact .head _))]
      exact x2
    refine ⟨by rw [b1, a1, List.flatMap_cons, List.append_assoc], fun k => ?_⟩
    rw [b2, a2, List.flatMap_cons]
    by_cases hk : k ∈ r
    · simp [hk]
    · by_cases ha : k = a
      · subst ha
        have hna : k ∉ sc k := fun q => (h k (by rw [List.flatMap_cons]; exact List.mem_append_left _ q)).1 (.head _)
        have hnr : k ∉ r.flatMap sc := fun q => (h k (by rw [List.flatMap_cons]; exact List.mem_append_right _ q)).1 (.head _)
        rw [if_neg hk, if_neg hnr, if_neg hna, if_pos rfl, if_pos (.head _)]
      · rw [if_neg hk, if_neg (show k ∉ a :: r from fun q => by rcases List.mem_cons.mp q with q | q; exact ha q; exact hk q)]
        by_cases hf : k ∈ r.flatMap sc
        · rw [if_pos hf, if_pos (List.mem_append_right _ hf)]
        · rw [if_neg hf]
          by_cases hs : k ∈ sc a
          · rw [if_pos hs, if_pos (List.mem_append_left _ hs)]
          · rw [if_neg hs, if_neg ha, if_neg (fun q => by rcases List.mem_append.mp q with q | q; exact hs q; exact hf q)]
theorem flat_nodup {sc : Nat → List Nat} (h1 : ∀ p, (sc p).Nodup) (h2 : ∀ p p' s, s ∈ sc p → s ∈ sc p' → p = p') : ∀ (q : List Nat), q.Nodup → (q.flatMap sc).Nodup
  | [], _ => by simp
  | a :: r, nd => by
    rw [List.nodup_cons] at nd
    rw [List.flatMap_cons, List.nodup_append]
    refine ⟨h1 a, flat_nodup h1 h2 r nd.2, fun s hs s' hs' e => ?_⟩
    subst e
    obtain ⟨b, hb, hsb⟩ := List.mem_flatMap.mp hs'
    exact nd.1 (h2 a b s hs hsb ▸ hb)
theorem scOf_nodup (ps : List Nat) (tr p : Nat) : (scOf ps tr p).Nodup := by unfold scOf; exact (rot_nodup _ _).filter _
theorem round_nodup (ps : List Nat) (D : Nat) : (roundAt ps D).Nodup := by unfold roundAt; exact List.nodup_range.filter _
theorem done_law {ps : List Nat} (H : Tree ps) {tr D : Nat} {q : List Nat} (hq : q.Perm (roundAt ps D)) :
    (∀ i r, q[i]? = some r → ((q.take i).foldl (dStep (scOf ps tr)) ((fun k => if k ∈ q then -1 else npAt ps D k), [])).1 r = -1) ∧
    (q.foldl (dStep (scOf ps tr)) ((fun k => if k ∈ q then -1 else npAt ps D k), [])).2.Perm (roundAt ps (D + 1)) ∧
    ∀ k, k < ps.length → (q.foldl (dStep (scOf ps tr)) ((fun k => if k ∈ q then -1 else npAt ps D k), [])).1 k = npAt ps (D + 1) k := by
  have ndq : q.Nodup := hq.nodup_iff.mpr (round_nodup ps D)
  have hm : ∀ k, k ∈ q ↔ k < ps.length ∧ dep ps k = D := fun k => by rw [hq.mem_iff]; exact round_mem
  have hf : ∀ s, s ∈ q.flatMap (scOf ps tr) ↔ s < ps.length ∧ dep ps s = D + 1 := fun s => by
    rw [List.mem_flatMap]
    constructor
    · rintro ⟨p, hp, hs⟩
      obtain ⟨h1, h2, h3⟩ := scOf_mem.mp hs
      have := dep_par H h1 h2
      rw [h3, ((hm p).mp hp).2] at this
      exact ⟨h1, this⟩
    · rintro ⟨h1, h2⟩
      have h0 : s ≠ 0 := fun q => by
        have := (dep_zero H h1).mpr q; omega
      have h3 := dep_par H h1 h0
      have hlt := H.lt s (by omega) h1
      exact ⟨ps.getD s 0, (hm _).mpr ⟨by omega, by omega⟩, scOf_mem.mpr ⟨h1, h0, rfl⟩⟩
  have nf := flat_nodup (scOf_nodup ps tr) (fun p p' s h1 h2 => (scOf_mem.mp h1).2.2.symm.trans (scOf_mem.mp h2).2.2)
  have hcond : ∀ s ∈ q.flatMap (scOf ps tr), s ∉ q ∧ (if s ∈ q then (-1 : Int) else npAt ps D s) = 1 := fun s hs => by
    obtain ⟨h1, h2⟩ := (hf s).mp hs
    have hnq : s ∉ q := fun x => by have := ((hm s).mp x).2; omega
    refine ⟨hnq, ?_⟩
    rw [if_neg hnq]
    unfold npAt
    rw [if_neg (by omega), if_neg (by omega)]
  obtain ⟨a1, a2⟩ := d_fold (scOf ps tr) q (fun k => if k ∈ q then -1 else npAt ps D k) [] ndq (nf q ndq) hcond
  refine ⟨fun i r hr => ?_, ?_, fun k hk => ?_⟩
  · have hrq := List.mem_of_getElem? hr
    have nt : (q.take i).Nodup := ndq.sublist (List.take_sublist i q)
    obtain ⟨_, b2⟩ := d_fold (scOf ps tr) (q.take i) (fun k => if k ∈ q then -1 else npAt ps D k) [] nt (nf _ nt) fun s hs => by
      obtain ⟨p, hp, hs2⟩ := List.mem_flatMap.mp hs
      obtain ⟨x1, x2⟩ := hcond s (List.mem_flatMap.mpr ⟨p, List.mem_of_mem_take hp, hs2⟩)
      exact ⟨fun y => x1 (List.mem_of_mem_take y), x2⟩
    rw [b2, if_neg (nodup_take ndq hr), if_neg (fun y => ?_), if_pos hrq]
    obtain ⟨p, hp, hs2⟩ := List.mem_flatMap.mp y
    exact (hcond r (List.mem_flatMap.mpr ⟨p, List.mem_of_mem_take hp, hs2⟩)).1 hrq
  · rw [a1, List.nil_append]
    exact (List.perm_ext_iff_of_nodup (nf q ndq) (round_nodup ps (D + 1))).mpr fun s => by rw [hf, round_mem]
  · rw [a2]
    unfold npAt
    by_cases h1 : k ∈ q
    · have := ((hm k).mp h1).2
      rw [if_pos h1, if_pos (by omega)]
    · rw [if_neg h1]
      have hne : dep ps k ≠ D := fun x => h1 ((hm k).mpr ⟨hk, x⟩)
      by_cases h2 : k ∈ q.flatMap (scOf ps tr)
      · have := ((hf k).mp h2).2
        rw [if_pos h2, if_neg (by omega), if_pos this]
      · have hne2 : dep ps k ≠ D + 1 := fun x => h2 ((hf k).mpr ⟨hk, x⟩)
        rw [if_neg h2, if_neg h1, if_neg hne, if_neg hne2]
        by_cases h3 : dep ps k < D
        · rw [if_pos h3, if_pos (by omega)]
        · rw [if_neg h3, if_neg (by omega)]
theorem sort_uniq : ∀ {a b : List Int}, a.Perm b → a.Pairwise (· ≤ ·) → b.Pairwise (· ≤ ·) → a = b
  | [], b, h, _, _ => h.symm.eq_nil.symm
  | x :: r, [], h, _, _ => by have := h.length_eq; cases this
  | x :: r, y :: s, h, ha, hb => by
    rw [List.pairwise_cons] at ha hb
    have hxy : x = y := by
      have h1 : x ∈ y :: s := h.subset (.head _)
      have h2 : y ∈ x :: r := h.symm.subset (.head _)
      rcases List.mem_cons.mp h1 with e | e
      · exact e
      · rcases List.mem_cons.mp h2 with e2 | e2
        · exact e2.symm
        · exact Int.le_antisymm (ha.1 y e2) (hb.1 x e)
    subst hxy
    rw [sort_uniq ((List.perm_cons x).mp h) ha.2 hb.2]
theorem round_sorted (ps : List Nat) (D : Nat) : (nat2 (roundAt ps D)).Pairwise (· ≤ ·) := by
  unfold roundAt nat2
  rw [List.pairwise_map]
  refine (List.Pairwise.filter _ (List.pairwise_lt_range)).imp fun h => by omega
-- P4
theorem turn_perm {α : Type} {I x dx d rl ta t7 kl rol c2 c1 : α} {f G : List α} : (t7 :: c2 :: kl :: c1 :: ((I :: x :: dx :: d :: (f ++ [rl, ta, rol])) ++ G)).Perm (I :: x :: dx :: d :: (f ++ (rl :: ta :: t7 :: kl :: rol :: c2 :: c1 :: G))) := by
  classical
  rw [List.perm_iff_count]
  intro a
  simp only [List.count_cons, List.count_append, List.count_nil]
  omega
theorem rule_perm {α : Type} {I acc t7 : α} {n2 n1 L : List α} : (I :: acc :: t7 :: ((n2 ++ n1) ++ L)).Perm (t7 :: (n2 ++ (I :: acc :: (n1 ++ L)))) := by
  classical
  rw [List.perm_iff_count]
  intro a
  simp only [List.count_cons, List.count_append, List.count_nil]
  omega
theorem back_perm {α : Type} {t7 c2 kl c1 : α} {A n1 R g L : List α} : (t7 :: c2 :: kl :: c1 :: (R ++ ((A ++ n1 ++ g) ++ L))).Perm (A ++ (t7 :: (n1 ++ (c2 :: kl :: c1 :: (R ++ (g ++ L)))))) := by
  classical
  rw [List.perm_iff_count]
  intro a
  simp only [List.count_cons, List.count_append, List.count_nil]
  omega
theorem RulesAre.append {l : Led} {vs ws : List Value} {rs qs : List (Str × Str)} (h : RulesAre l vs rs) (k : RulesAre l ws qs) : RulesAre l (vs ++ ws) (rs ++ qs) := by
  refine ⟨by simp [h.1, k.1], fun i p hp => ?_⟩
  by_cases hi : i < rs.length
  · rw [List.getElem?_append_left hi] at hp
    obtain ⟨y, a, h1, h2⟩ := h.2 i p hp
    exact ⟨y, a, by rw [List.getElem?_append_left (by rw [h.1]; exact hi)]; exact h1, h2⟩
  · rw [List.getElem?_append_right (by omega)] at hp
    obtain ⟨y, a, h1, h2⟩ := k.2 _ p hp
    exact ⟨y, a, by rw [List.getElem?_append_right (by rw [h.1]; omega), h.1]; exact h1, h2⟩
theorem RulesAre.one {l : Led} {x : Addr} {p v : Str} {t : Tok} (h : RuleOk l x p (.str v t)) : RulesAre l [.ref x] [(p, v)] := by
  refine ⟨rfl, fun i r hr => ?_⟩
  cases i with
  | zero => cases hr; exact ⟨x, t, rfl, h⟩
  | succ i => simp at hr
theorem strs_set {y : Str} {t : Tok} : ∀ {vs : List Value} {ys : List Str} (k : Nat), StrsAre vs ys → StrsAre (vs.set k (.str y t)) (ys.set k y)
  | _, _, _, .nil => .nil
  | _, _, 0, .cons z u h => .cons y t h
  | _, _, k + 1, .cons z u h => .cons z u (strs_set k h)
theorem sg_len (t : Str) (p : Nat × Nat × Str) (hp : p.2.2 = Str.ofString "s" ∨ p.2.2 = Str.ofString "t") : (sgStep t p).length = t.length + 3 := by
  unfold sgStep
  rw [str_len, str_len, str_len]
  have h1 : (sgA p.1).length = 1 := by unfold sgA; split <;> rfl
  have h2 : (sgB p.1).length = 1 := by unfold sgB; split <;> rfl
  have h3 : (sgC p.1 p.2.1 p.2.2).length = 1 := by
    unfold sgC
    rcases hp with h | h <;> rw [h] <;> split <;> split <;> rfl
  omega
theorem signs_len (md : Nat) : (signs md).length ≤ 900 := by
  unfold signs sgFigs
  simp only [List.foldl_cons, List.foldl_nil]
  rw [sg_len _ _ (.inr rfl), sg_len _ _ (.inl rfl), sg_len _ _ (.inl rfl)]
  have : (sgHead md).length ≤ 1 := Nat.le_refl 1
  omega
theorem vN_len (md : Nat) : (vN md).length < 1000 := by
  unfold vN
  split
  · have := signs_len md; omega
  · decide
theorem climbed_len (ps : List Nat) (ms : List (Nat × Nat)) (k : Nat) : (climbed ps ms k).length < 1000 := by
  induction k using Nat.strongRecOn with
  | ind k ih =>
    rw [climbed]
    split
    · split
      · exact ih _ (by assumption)
      · decide
    · have : ∀ l : List Nat, (headOf l).length < 1000 := by
        intro l
        unfold headOf dirsOf
        cases hl : l.filter fun md => md / 4096 % 16 == 4 with
        | nil => decide
        | cons a r =>
          show (signs a).length < 1000
          have := signs_len a; omega
      exact this _
theorem map_set {f : Nat → Str} {N k : Nat} {y : Str} : ((List.range N).map f).set k y = (List.range N).map fun i => if i = k then y else f i := by
  refine List.ext_getElem? fun i => ?_
  rw [List.getElem?_set, List.getElem?_map, List.getElem?_map, List.length_map, List.length_range]
  by_cases hi : i < N
  · rw [List.getElem?_range hi]
    by_cases hk : k = i
    · subst hk; simp [hi]
    · rw [if_neg hk]; simp [Ne.symm hk]
  · rw [List.getElem?_eq_none (by rw [List.length_range]; omega)]
    by_cases hk : k = i
    · subst hk; simp [hi]
    · rw [if_neg hk]; rfl
theorem range_at {f : Nat → Str} {vs : List Value} {N k : Nat} (h : StrsAre vs ((List.range N).map f)) (hk : k < N) : ∃ t, vs[k]? = some (.str (f k) t) := StrsAre.at h (by rw [List.getElem?_map, List.getElem?_range hk]; rfl)
section
variable {c : Cx} {m : Loc} {led : Led} {X : Value → Loc → Led → Prop} {Q : Value → Loc → Led → Prop} {env : Env}
theorem TD.part {f : Value} {args : List Value} {l' : Led} (h : Sub l' led) (k : TD c m l' f args Q) : TD c m led f args Q := .mk fun hp tk A' a b d e R => k.run hp tk A' a b d e (R.sub h)
theorem sum_lid {f : Nat → Nat} {b : Nat} (hf : ∀ r, f r ≤ b) : ∀ {l : List Nat}, (l.map f).sum ≤ l.length * b
  | [] => by simp
  | r :: l => by
    rw [List.map_cons, List.sum_cons, List.length_cons, Nat.succ_mul]
    have := sum_lid hf (l := l)
    have := hf r
    omega
end
theorem rule2_perm {α : Type} {lb b5 la t7 : α} {n2 n1 L : List α} : (t7 :: ((lb :: b5 :: (n2 ++ (la :: n1))) ++ L)).Perm (lb :: b5 :: t7 :: (n2 ++ (la :: (n1 ++ L)))) := by
  classical
  rw [List.perm_iff_count]
  intro a
  simp only [List.count_cons, List.count_append]
  omega
-- TG
section
variable {prog : Program} {w : World} {A : Around} {R : Result → Shared → Prop} {I : Addr} {fp wr : List Addr} {G : Array GenState → Array GenState → Prop} {n : Nat} {P : Nat → Value → Prop} {St : Nat → Shared → Prop}
theorem SetOf.same {h h' : Heap} {S : Addr} {f : Str → Bool} {k : Nat} (e : ∀ o, h.get? S = some o → h'.get? S = some o) (hS : h.SetOf (strKind prog w) S f k) : h'.SetOf (strKind prog w) S f k :=
  let ⟨o, es, ep, t, ho, rest⟩ := hS; ⟨o, es, ep, t, e _ ho, rest⟩
theorem set_loop_strs (W : WalksS prog w A.in1 I fp wr G n P St) (S : Addr) (hSf : S ∉ fp) (ys : List Str) (hval : ∀ i v, P i v → ∃ t y, ys[i]? = some y ∧ v = .str y t) (hn : ys.length = n) (hb : n + 1 < scanBound) :
    ∀ (k i : Nat) (s : Shared) (nn : Nat), n - i = k → i ≤ n → nn ≤ i → St i s → s.heap.SetOf (strKind prog w) S (fun x => decide (x ∈ ys.take i)) nn →
      (∀ s' nn', nn' ≤ n → Moved (S :: wr) G s s' → s'.heap.SetOf (strKind prog w) S (fun x => decide (x ∈ ys)) nn' → R (.ok (.ret .none)) s') →
      codeAny (model prog w) A (.builtin "set.update.loop" ⟨[.ref S, .ref I], []⟩) R s := by
  have hSw : S ∉ wr := fun h => hSf (W.sub _ h)
  have hsub : ∀ b ∈ wr, b ∈ S :: wr := fun b hb => List.mem_cons_of_mem _ hb
  intro k
  induction k with
  | zero =>
    intro i s nn hk hi hnn hst hS hR
    have hin : i = n := by omega
    subst hin
    refine codeAny_builtin PyProof.Rows.F.entry_set_update_loop ?_
    rw [Around.under_plainId PyProof.Rows.F.plain_set_update_loop _]
    show wpAny _ A.in1 (pyNext (.ref I) >>= _) _ _ s
    refine wpAny_bind (W.done s _ _ hst fun s' hm => ?_)
    show wpAny _ A.in1 (ret Value.none) _ _ s'
    refine wpAny_pure (hR s' nn hnn (hm.mono hsub) (SetOf.same (fun o e => hm.heap S _ hSw e) ?_))
    rw [← hn, List.take_length] at hS
    exact hS
  | succ k ih =>
    intro i s nn hk hi hnn hst hS hR
    have hlt : i < n := by omega
    refine codeAny_builtin PyProof.Rows.F.entry_set_update_loop ?_
    rw [Around.under_plainId PyProof.Rows.F.plain_set_update_loop _]
    show wpAny _ A.in1 (pyNext (.ref I) >>= _) _ _ s
    refine wpAny_bind (W.item i s _ _ hlt hst fun v s' hP hst' hm => ?_)
    obtain ⟨t, y, hy, rfl⟩ := hval i v hP
    have hS' := SetOf.same (h' := s'.heap) (fun o e => hm.heap S _ hSw e) hS
    show wpAny _ A.in1 (holding [Value.str y t] (setAdd S (.str y t)) >>= _) _ _ s'
    refine wpAny_bind (wpAny_holding ?_)
    unfold setAdd
    refine wpAny_holding ?_
    refine wpAny_bind ((strKind prog w).pyHash (k := y) (strKind_is _ _ _ _) ?_)
    refine wpAny_setAddHashed_of (knd := strKind prog w) (s := { s' with toks := s'.toks + 1 }) (strKind_is _ _ _ _) rfl hS' (by omega) fun h' hsb hS2 => ?_
    have hSi : h'.SetOf (strKind prog w) S (fun x => decide (x ∈ ys.take (i + 1))) (if decide (y ∈ ys.take i) = true then nn else nn + 1) := by
      have e : (fun x => decide (x ∈ ys.take (i + 1))) = fun x => decide (x ∈ ys.take i) || decide (x = y) := by
        funext x
        rw [take_snoc hy]
        simp
      rw [e]
      exact hS2
    refine wpAny_pure ⟨plainId_quiet PyProof.Rows.F.plain_set_update_loop _, ih (i + 1) _ _ (by omega) hlt ?_ (W.frame _ s' _ _ hst' (Nat.le_succ _) fun b hb o e => ?_) hSi fun s'' nn' hn' hm'' hS'' => ?_⟩
    · split <;> omega
    · rw [hsb.2 b (fun h : b = S => hSf (by rw [← h]; exact hb))]; exact e
    · refine hR s'' nn' hn' (Moved.trans W.gtrans ((hm.mono hsub).then_heap (Nat.le_succ _) fun b o hb e => ?_) hm'') hS''
      rw [hsb.2 b (fun h : b = S => hb (by rw [h]; exact List.mem_cons_self))]; exact e
end
section
variable {prog : Program} {w : World} {A : Around} {E : Value → Shared → Prop} {s : Shared}
set_option maxRecDepth 100000 in
set_option maxHeartbeats 3200000 in
theorem call_set_strs {l : Addr} {items : Array Value} {ys : List Str} {Q : Value → Shared → Prop}
    (hh : A.handled = none) (hl : s.heap.IsList l items) (hi : StrsAre items.toList ys) (hb : items.size + 1 < scanBound)
    (h : ∀ (h' : Heap) (tk n : Nat), n ≤ items.size → h'.SetOf (strKind prog w) s.heap.objs.size (fun x => decide (x ∈ ys)) n →
      (∀ b o, b < s.heap.objs.size → s.heap.get? b = some o → h'.get? b = some o) → Q (.ref s.heap.objs.size) { s with heap := h', toks := tk }) :
    wpAny (model prog w) A (call (.type "set") [.ref l]) Q E s := by
  obtain ⟨c, tl, hmro⟩ := PySem.F.called_set.mro
  have hmade := PySem.F.called_set.made
  have hsub := PySem.F.called_set.sub
  refine wpAny_call (codeAny_of_tree ?_)
  show wpAny _ _ (callAny (.type "set") _) _ _ _
  refine wpAny_pure ⟨Code.quiet_builtin _ (by decide +kernel), codeAny_builtin PySem.F.entry_type_call ?_⟩
  rw [Around.under_plain (weight_type_call_type "set" [.ref l] []) rfl]
  have h1 := PySem.F.called_set.notType
  have h2 := PySem.F.called_set.canCreate
  have hct := PySem.F.typeCall_set_1 (.ref l)
  wp_delta
  (with_reducible apply wpAny_ite_false); focus (rfl; done)
  (with_reducible apply wpAny_ite_false); focus (rfl; done)
  with_reducible refine wpAny_bind ?_
  with_reducible refine wpAny_of_eq (by assumption) ?_
  with_reducible refine wpAny_bind ?_
  with_reducible refine wpAny_of_eq (by assumption) ?_
  (with_reducible apply wpAny_ite_false); focus (rfl; done)
  with_reducible refine wpAny_bind ?_
  with_reducible refine wpAny_of_eq (by assumption) ?_
  with_reducible refine wpAny_bind ?_
  with_reducible refine wpAny_pure ?_
  with_reducible refine wpAny_bind ?_
  with_reducible refine wpAny_holding ?_
  with_reducible refine wpAny_call ?_
  refine codeAny_mono (code_set_new_1 (.ref l) (E := E) (Q₁ := fun obj s₁ => ∃ led : Bool, obj = .ref s.heap.objs.size ∧ s₁ = { s with heap := s.heap.push { cls := .type "set", dict := none, data := .set #[] 0 (.fresh 0 0 led) } }) fun led => ⟨led, rfl, rfl⟩) fun r s₁ hr => ?_
  cases r with
  | error e => exact hr
  | ok fl =>
    cases fl with
    | ret obj =>
      obtain ⟨led, rfl, rfl⟩ := hr
      have hS : (s.heap.push { cls := .type "set", dict := none, data := .set #[] 0 (.fresh 0 0 led) }).get? s.heap.objs.size = some { cls := .type "set", dict := none, data := .set #[] 0 (.fresh 0 0 led) } := Heap.get?_push_size _ rfl
      have hT : Shared.TypeIs { s with heap := s.heap.push { cls := .type "set", dict := none, data := .set #[] 0 (.fresh 0 0 led) } } (.ref s.heap.objs.size) "set" := ⟨_, hS, rfl⟩
      have hli := PySem.F.called_set.init.lookup
      have hbi := PySem.F.called_set.init.bind (.ref s.heap.objs.size)
      with_reducible refine wpAny_bind ?_
      with_reducible refine wpAny_isInstance (by assumption) (by assumption) ?_
      (with_reducible apply wpAny_ite_false); focus (rfl; done)
      with_reducible refine wpAny_bind ?_
      with_reducible refine wpAny_holding ?_
      wp_delta
      with_reducible refine wpAny_bind ?_
      with_reducible refine wpAny_specialOf (by assumption) (by assumption) ?_
      with_reducible refine wpAny_holding ?_
      with_reducible refine wpAny_bind ?_
      with_reducible refine wpAny_of_eq (by assumption) ?_
      with_reducible refine wpAny_bind ?_
      with_reducible refine wpAny_call ?_
      refine codeAny_mono (codeAny_call_builtin (R := wants (fun r s₂ => r = .none ∧ ∃ h' tk n, s₂ = { s with heap := h', toks := tk } ∧ n ≤ items.size ∧
          h'.SetOf (strKind prog w) s.heap.objs.size (fun x => decide (x ∈ ys)) n ∧ (∀ b o, b < s.heap.objs.size → s.heap.get? b = some o → h'.get? b = some o)) E) PySem.F.called_set.init.plain PySem.F.entry_set_init (check_set_init_1 hT ?_)) fun r₂ s₂ hr₂ => ?_
      · obtain ⟨ol, hol, hcl, nl, hdl⟩ := hl
        obtain ⟨ocls, odict, odata, oslots⟩ := ol
        simp only at hcl hdl
        subst hcl; subst hdl
        have hol' : (s.heap.push { cls := .type "set", dict := none, data := .set #[] 0 (.fresh 0 0 led) }).get? l = some { cls := .type "list", dict := odict, data := .seq items nl, slots := oslots } := Heap.get?_push_of_some _ hol
        have hsls := PySem.F.sub_list_set
        have hslf := PySem.F.sub_list_frozenset
        have hne : (Value.type "list" == Value.type "dict") = false := by decide
        have hl1 : (s.heap.push { cls := .type "set", dict := none, data := .set #[] 0 (.fresh 0 0 led) }).IsList l items := ⟨_, hol', rfl, nl, rfl⟩
        unfold Builtin.«set.__init__» noKeywords Builtin.Frozenset.updateFrom
        generalize hPI : pyIter = PI
        with_reducible refine wpAny_bind ?_
        (with_reducible apply wpAny_ite_true); focus (rfl; done)
        with_reducible refine wpAny_pure ?_
        wp_delta
        with_reducible refine wpAny_bind ?_
        wp_delta
        with_reducible refine wpAny_bind ?_
        wp_delta
        with_reducible refine wpAny_bind ?_
        with_reducible refine wpAny_typeOf (by assumption) ?_
        (with_reducible apply wpAny_ite_false); focus (rfl; done)
        with_reducible refine wpAny_pure ?_
        wp_delta
        wp_delta
        with_reducible refine wpAny_pure ?_
        with_reducible refine wpAny_bind ?_
        wp_delta
        (with_reducible apply wpAny_ite_false); focus (rfl; done)
        (with_reducible apply wpAny_ite_false); focus (rfl; done)
        (with_reducible apply wpAny_ite_false); focus (rfl; done)
        with_reducible refine wpAny_pure ?_
        with_reducible refine wpAny_bind ?_
        wp_delta
        with_reducible refine wpAny_pure ?_
        with_reducible refine wpAny_bind ?_
        wp_delta
        with_reducible refine wpAny_bind ?_
        wp_delta
        with_reducible refine wpAny_bind ?_
        (with_reducible apply wpAny_load'); focus (heap_get; done)
        (with_reducible apply wpAny_ite_false); focus (rfl; done)
        with_reducible refine wpAny_pure ?_
        with_reducible refine wpAny_pure ?_
        (with_reducible apply wpAny_ite_false); focus (rfl; done)
        wp_delta
        with_reducible refine wpAny_bind ?_
        with_reducible refine wpAny_bind ?_
        wp_delta
        wp_delta
        with_reducible refine wpAny_bind ?_
        wp_delta
        with_reducible refine wpAny_bind ?_
        wp_delta
        with_reducible refine wpAny_bind ?_
        (with_reducible apply wpAny_loadPart'); focus (heap_get; done)
        with_reducible refine wpAny_pure ?_
        with_reducible refine wpAny_of_eq (by assumption) ?_
        wp_delta
        wp_delta
        with_reducible refine wpAny_bind ?_
        wp_delta
        with_reducible refine wpAny_bind ?_
        (with_reducible apply wpAny_loadPart'); focus (heap_get; done)
        with_reducible refine wpAny_pure ?_
        with_reducible refine wpAny_of_eq (by assumption) ?_
        (with_reducible apply wpAny_ite_false); focus (rfl; done)
        with_reducible refine wpAny_bind ?_
        wp_delta
        with_reducible refine wpAny_bind ?_
        (with_reducible apply wpAny_loadPart'); focus (heap_get; done)
        with_reducible refine wpAny_pure ?_
        (with_reducible apply wpAny_ite_false); focus (rfl; done)
        with_reducible refine wpAny_bind ?_
        subst hPI
        refine wpAny_pyIter_list hl1 ?_
        refine wpAny_bind (wpAny_runValue ?_)
        have hlS : l < s.heap.objs.size := Heap.lt_size hol
        have hh3 : A.in1.in1.in1.handled = none := by simp [hh]
        have hneI : l ≠ (s.heap.push { cls := .type "set", dict := none, data := .set #[] 0 (.fresh 0 0 led) }).objs.size := by
          rw [Heap.size_push]; exact Nat.ne_of_lt (Nat.lt_succ_of_lt hlS)
        have hSf : s.heap.objs.size ∉ [(s.heap.push { cls := .type "set", dict := none, data := .set #[] 0 (.fresh 0 0 led) }).objs.size, l] := by
          rw [Heap.size_push]; simp only [List.mem_cons, List.mem_singleton, List.not_mem_nil, or_false, not_or]
          exact ⟨Nat.ne_of_lt (Nat.lt_succ_self _), Nat.ne_of_gt hlS⟩
        have hyl : ys.length = items.size := by have := StrsAre.len_eq hi; simpa using this.symm
        have hval : ∀ (i : Nat) (v : Value), items[i]? = some v → ∃ t y, ys[i]? = some y ∧ v = .str y t := fun i v hv => by
          have hlt : i < ys.length := by rw [hyl]; exact (Array.getElem?_eq_some_iff.mp hv).1
          obtain ⟨t, e⟩ := StrsAre.at hi (List.getElem?_eq_getElem hlt)
          rw [Array.getElem?_toList, hv] at e
          cases e
          exact ⟨t, _, List.getElem?_eq_getElem hlt, rfl⟩
        refine set_loop_strs ((Walks.list hh3 _ l hneI items).toS) s.heap.objs.size
          hSf ys hval hyl hb (items.size - 0) 0 _ 0 (by omega) (Nat.zero_le _) (Nat.le_refl _)
          ⟨⟨_, Heap.get?_push_size _ rfl, rfl, rfl⟩, (hl1.push _)⟩ ?hS0 ?hR
        case hS0 =>
          have hget : ((s.heap.push { cls := .type "set", dict := none, data := .set #[] 0 (.fresh 0 0 led) }).push { cls := .type "list_iterator", data := .fields #[.ref l, .int 0 0] }).get? s.heap.objs.size
              = some { cls := .type "set", dict := none, data := .set #[] 0 (.fresh 0 0 led) } := Heap.get?_push_of_some _ hS
          exact PyProof.Rows.SetOf_congr ((PyProof.Rows.setObjOf_fresh (knd := strKind prog w) led).setOf hget (by unfold scanBound; omega)) (fun _ => by simp) rfl
        case hR =>
          intro s' nn hnn hm hS'
          obtain ⟨h', g', d', tk', os'⟩ := s'
          have eg : g' = s.gens := hm.gens
          have ed : d' = s.drawn := hm.drawn
          have eo : os' = s.os := hm.os
          subst eg; subst ed; subst eo
          show wpAny _ _ _ _ _ _
          refine wpAny_pure ?_
          show wpAny _ _ (ret Value.none) _ _ _
          refine wpAny_pure ⟨rfl, h', tk', nn, rfl, hnn, hS', fun b o hb e => ?_⟩
          have hb1 : b ≠ s.heap.objs.size := Nat.ne_of_lt hb
          have hb2 : b ≠ (s.heap.push { cls := .type "set", dict := none, data := .set #[] 0 (.fresh 0 0 led) }).objs.size := by
            rw [Heap.size_push]; exact Nat.ne_of_lt (Nat.lt_succ_of_lt hb)
          exact hm.heap b o (by simp only [List.mem_cons, List.mem_singleton, List.not_mem_nil, or_false, not_or]; exact ⟨hb1, hb2⟩) (Heap.get?_push_of_some _ (Heap.get?_push_of_some _ e))
      · cases r₂ with
        | error e => exact hr₂
        | ok fl₂ =>
          cases fl₂ with
          | ret r =>
            obtain ⟨rfl, h', tk, nn, rfl, hnn, hS', hk'⟩ := hr₂
            with_reducible refine wpAny_pure ?_
            (with_reducible apply wpAny_ite_false); focus (rfl; done)
            wp_delta
            wp_delta
            with_reducible refine wpAny_pure ?_
            exact h _ _ nn hnn hS' hk'
          | _ => exact hr₂.elim
    | _ => exact hr.elim
end
-- TH
abbrev bcO (a : Addr) : Obj := { cls := .type "builtin_function_or_method", data := .fields #[.builtin "set.__contains__", .ref a] }
abbrev flO (q it : Addr) : Obj := { cls := .type "filter", data := .fields #[.ref q, .ref it] }
namespace MG
theorem slot_mget : Slot "method_descriptor" "__get__" "method_descriptor.__get__" :=
  .of (owner := "method_descriptor") (n := "__get__") (by rw [typeLookup_type, builtinLookup_eq_fast]; kernel_rfl) (by decide +kernel) (by decide +kernel) (by decide +kernel)
    (by first | exact .inl (by decide +kernel) | exact .inr (by decide +kernel)) (by rw [isSubtype_type]; kernel_rfl)
theorem lk_set : typeLookup (.type "method_descriptor") "__set__" = Pure.pure none := by rw [typeLookup_type, builtinLookup_eq_fast]; kernel_rfl
theorem lk_del : typeLookup (.type "method_descriptor") "__delete__" = Pure.pure none := by rw [typeLookup_type, builtinLookup_eq_fast]; kernel_rfl
theorem entry_mget : entryFor table "method_descriptor.__get__" = some Builtin.«method_descriptor.__get__» := entryFor_of_tree (by kernel_rfl)
theorem args_mget (a b c : Value) : argsOk "method_descriptor.__get__" ⟨[a, b, c], []⟩ := by unfold argsOk; kernel_rfl
theorem owner_sc : (".".intercalate ("set.__contains__".cutAt '.').dropLast) = "set" := by
  have e0 : "set.__contains__".cutAt '.' = ["set", "__contains__"] := by first | rfl | decide +kernel
  rw [e0]; decide +kernel
theorem sub_sc : isSubtype (.type "set") (.type (".".intercalate ("set.__contains__".cutAt '.').dropLast)) = Pure.pure true := by rw [owner_sc, isSubtype_type]; kernel_rfl
end MG
section
variable {prog : Program} {w : World} {A : Around} {E : Value → Shared → Prop} {h : Heap} {g : Array GenState} {d : Drawn} {t : Nat} {os : OsState} {a : Addr} {es : Array (Int × Value)} {ep : Nat} {tb : SetTable} {sl : Array (Option Value)}
theorem sc_mget {R : Result → Shared → Prop} (ho : h.get? a = some ⟨.type "set", none, .set es ep tb, sl⟩) (hq : R (.ok (.ret (.ref h.objs.size))) ⟨h.push (bcO a), g, d, t, os⟩) :
    codeAny (model prog w) A (.call (.builtin "method_descriptor.__get__") ⟨[.builtin "set.__contains__", .ref a, .type "set"], []⟩) R ⟨h, g, d, t, os⟩ := by
  have hT : (⟨h, g, d, t, os⟩ : Shared).TypeIs (.ref a) "set" := ⟨_, ho, rfl⟩
  have hT5 : (⟨h, g, d, t, os⟩ : Shared).TypeIs (.builtin "set.__contains__") "method_descriptor" := PySem.F.type_set_contains
  have f8 := MG.sub_sc
  refine codeAny_call_builtin MG.slot_mget.plain MG.entry_mget (MG.slot_mget.check _ _ _ _ _ _ _ _ hT5 (MG.args_mget _ _ _) ?_)
  wp_delta
  with_reducible refine wpAny_bind ?_
  wp_delta
  (with_reducible apply wpAny_ite_false); focus (rfl; done)
  with_reducible refine wpAny_bind ?_
  with_reducible refine wpAny_pure ?_
  (with_reducible apply wpAny_ite_false); focus (rfl; done)
  with_reducible refine wpAny_pure ?_
  wp_delta
  (with_reducible apply wpAny_ite_false); focus (rfl; done)
  wp_delta
  wp_delta
  with_reducible refine wpAny_bind ?_
  wp_delta
  with_reducible refine wpAny_bind ?_
  wp_delta
  with_reducible refine wpAny_pure ?_
  with_reducible refine wpAny_bind ?_
  with_reducible refine wpAny_isInstance (by assumption) (by assumption) ?_
  (with_reducible apply wpAny_ite_false); focus (rfl; done)
  with_reducible refine wpAny_pure ?_
  with_reducible refine wpAny_bind ?_
  wp_delta
  wp_delta
  (with_reducible apply wpAny_ite_false); focus (rfl; done)
  wp_delta
  wp_delta
  with_reducible refine wpAny_bind ?_
  with_reducible refine wpAny_alloc' ?_
  with_reducible refine wpAny_pure ?_
  wp_delta
  with_reducible refine wpAny_pure ?_
  assumption
theorem sc_oga {tk : Tok} {Q : Fin → Shared → Prop} (ho : h.get? a = some ⟨.type "set", none, .set es ep tb, sl⟩) (hq : Q (.done (.ret (.ref h.objs.size))) ⟨h.push (bcO a), g, d, t, os⟩) :
    wpAny (model prog w) A (Builtin.«object.__getattribute__» ⟨[.ref a, .str "__contains__" tk], []⟩) Q E ⟨h, g, d, t, os⟩ := by
  have hT : (⟨h, g, d, t, os⟩ : Shared).TypeIs (.ref a) "set" := ⟨_, ho, rfl⟩
  have hT5 : (⟨h, g, d, t, os⟩ : Shared).TypeIs (.builtin "set.__contains__") "method_descriptor" := PySem.F.type_set_contains
  have f4 := PySem.F.slot_set_contains.lookup
  have f5 := PySem.F.type_set_contains
  have f6 := MG.slot_mget.lookup
  have f7 := MG.lk_set
  have f8 := MG.lk_del
  wp_delta
  with_reducible refine wpAny_bind ?_
  wp_delta
  (with_reducible apply wpAny_ite_false); focus (rfl; done)
  (with_reducible apply wpAny_ite_false); focus (rfl; done)
  with_reducible refine wpAny_pure ?_
  with_reducible refine wpAny_bind ?_
  wp_delta
  with_reducible refine wpAny_pure ?_
  with_reducible refine wpAny_bind ?_
  with_reducible refine wpAny_typeOf (by assumption) ?_
  with_reducible refine wpAny_bind ?_
  wp_delta
  with_reducible refine wpAny_bind ?_
  with_reducible refine wpAny_of_eq (by assumption) ?_
  with_reducible refine wpAny_bind ?_
  wp_delta
  with_reducible refine wpAny_specialOf_val (by assumption) (by assumption) ?_
  with_reducible refine wpAny_bind ?_
  wp_delta
  with_reducible refine wpAny_bind ?_
  wp_delta
  with_reducible refine wpAny_bind ?_
  with_reducible refine wpAny_specialOf_val (by assumption) (by assumption) ?_
  (with_reducible apply wpAny_ite_false); focus (rfl; done)
  with_reducible refine wpAny_bind ?_
  with_reducible refine wpAny_specialOf_val (by assumption) (by assumption) ?_
  with_reducible refine wpAny_pure ?_
  (with_reducible apply wpAny_ite_false); focus (rfl; done)
  with_reducible refine wpAny_pure ?_
  wp_delta
  wp_delta
  with_reducible refine wpAny_bind ?_
  wp_delta
  with_reducible refine wpAny_bind ?_
  wp_delta
  with_reducible refine wpAny_bind ?_
  wp_delta
  (with_reducible apply wpAny_loadPart'); focus (heap_get; done)
  wp_delta
  wp_delta
  with_reducible refine wpAny_bind ?_
  (with_reducible apply wpAny_loadPart'); focus (heap_get; done)
  (with_reducible apply wpAny_ite_true); focus (rfl; done)
  with_reducible refine wpAny_pure ?_
  wp_delta
  with_reducible refine wpAny_pure ?_
  with_reducible refine wpAny_bind ?_
  wp_delta
  (with_reducible apply wpAny_ite_false); focus (rfl; done)
  with_reducible refine wpAny_pure ?_
  wp_delta
  with_reducible refine wpAny_bind ?_
  with_reducible refine wpAny_rule ?_
  with_reducible refine wpAny_pure ?_
  wp_delta
  wp_delta
  with_reducible refine wpAny_bind ?_
  with_reducible refine wpAny_holding ?_
  with_reducible refine wpAny_call ?_
  refine sc_mget ho ?_
  wp_delta
  with_reducible refine wpAny_pure ?_
  assumption
theorem sc_get {Q : Value → Shared → Prop} {ex : Bool} (ho : h.get? a = some ⟨.type "set", none, .set es ep tb, sl⟩) (hq : Q (.ref h.objs.size) ⟨h.push (bcO a), g, d, t + 1, os⟩) : wpAny (model prog w) A (getAttr (.ref a) "__contains__" ex) Q E ⟨h, g, d, t, os⟩ := by
  have hT : (⟨h, g, d, t + 1, os⟩ : Shared).TypeIs (.ref a) "set" := ⟨_, ho, rfl⟩
  have f2 := PySem.F.slot_set_getattribute.lookup
  have f3 := PySem.F.slot_set_getattribute.bind (.ref a)
  unfold getAttr getAttrBy
  refine wpAny_bind (wpAny_mkText ?_)
  with_reducible refine wpAny_holding ?_
  with_reducible refine wpAny_bind ?_
  with_reducible refine wpAny_typeOf (by assumption) ?_
  with_reducible refine wpAny_bind ?_
  with_reducible refine wpAny_of_eq (by assumption) ?_
  (with_reducible apply wpAny_ite_false); focus (rfl; done)
  wp_delta
  with_reducible refine wpAny_bind ?_
  wp_delta
  (with_reducible apply wpAny_ite_false); focus (rfl; done)
  with_reducible refine wpAny_pure ?_
  with_reducible refine wpAny_bind ?_
  with_reducible refine wpAny_attempt ?_
  with_reducible refine wpAny_holding ?_
  wp_delta
  rw [if_neg (by cases ex <;> decide)]
  wp_delta
  with_reducible refine wpAny_bind ?_
  with_reducible refine wpAny_of_eq (by assumption) ?_
  with_reducible refine wpAny_call ?_
  refine codeAny_call_builtin PySem.F.slot_set_getattribute.plain PySem.F.entry_set_ga (PySem.F.slot_set_getattribute.check _ _ _ _ _ _ _ _ hT (PySem.F.args_set_getattribute_2 _ _) (sc_oga ho ?_))
  wp_delta
  wp_delta
  with_reducible refine wpAny_pure ?_
  assumption
end
namespace MG
theorem sig_sc : Manifest.signature? "set.__contains__" = some ⟨.oneArg, "set.__contains__", "__contains__", .self, [⟨"object", .posOnly, true⟩]⟩ := by
  rw [signature?_of (id := "set.__contains__") (n := ['_', '_', 's', 'n', 'i', 'a', 't', 'n', 'o', 'c', '_', '_']) (o := ['t', 'e', 's']) (by kernel_rfl) PySem.F.owner_set]; kernel_rfl
theorem kind_sc : builtinKind "set.__contains__" = some .method := by kernel_rfl
theorem sub_module : isSubtype (.type "set") (.type "module") = Pure.pure false := by rw [isSubtype_type]; kernel_rfl
theorem sub_type : isSubtype (.type "set") (.type "type") = Pure.pure false := by rw [isSubtype_type]; kernel_rfl
theorem args_sc (x v : Value) : Bind.checkArgs "set.__contains__" ⟨.oneArg, s!"{Bind.lastOf "set"}.{Bind.lastOf "set.__contains__"}", "__contains__", .self, [⟨"object", .posOnly, true⟩]⟩ ⟨[x, v], []⟩ = Pure.pure () := by kernel_rfl
end MG
section
variable {prog : Program} {w : World} {A : Around} {E : Value → Shared → Prop} {s : Shared} {a q : Addr}
theorem sc_check {v : Value} {es : Array (Int × Value)} {ep : Nat} {tb : SetTable} {sl : Array (Option Value)} {Q : Unit → Shared → Prop} (ho : s.heap.get? a = some ⟨.type "set", none, .set es ep tb, sl⟩) (hQ : Q () s) : wpAny (model prog w) A (checkBoundCall "set.__contains__" ⟨[.ref a, v], []⟩) Q E s := by
  have hT : s.TypeIs (.ref a) "set" := ⟨_, ho, rfl⟩
  simp only [checkBoundCall, MG.sig_sc, MG.kind_sc]
  rw [if_neg (by decide)]
  refine wpAny_bind (wpAny_isInstance hT MG.sub_module ?_)
  rw [if_neg (by decide +kernel)]
  refine wpAny_bind ?_
  unfold isType
  refine wpAny_bind (wpAny_load ho (wpAny_pure ?_))
  rw [if_neg (by exact Bool.false_ne_true)]
  refine wpAny_bind (wpAny_typeOf hT ?_)
  exact wpAny_of_eq (a := ()) (MG.args_sc _ _) hQ
theorem sc_call {S : Str → Bool} {n : Nat} {y : Str} {t : Tok} {Q : Value → Shared → Prop} (ho : s.heap.get? q = some (bcO a)) (hS : s.heap.SetOf (strKind prog w) a S n) (h : Q (.bool (S y)) { s with toks := s.toks + 1 }) :
    wpAny (model prog w) A (call (.ref q) [.str y t]) Q E s := by
  obtain ⟨os, es, ep, tb, ho', ⟨hc1, hc2, hc3⟩, hd, _⟩ := id hS
  obtain ⟨cls, dict, data, slots⟩ := os
  dsimp only at hc1 hc2 hc3 hd
  subst hc1 hc2 hc3 hd
  refine wpAny_call (codeAny_of_tree ?_)
  show wpAny _ A.in1 (callAny (.ref q) ⟨[.str y t], []⟩) _ _ s
  simp only [callAny]
  refine wpAny_bind (wpAny_load ho ?_)
  simp only [show (Value.type "builtin_function_or_method" == Value.type "method" || Value.type "builtin_function_or_method" == Value.type "builtin_function_or_method" || Value.type "builtin_function_or_method" == Value.type "method-wrapper") = true by decide, if_true]
  show wpAny _ A.in1 (if (Value.type "builtin_function_or_method" != Value.type "method") = true then (do checkBoundCall "set.__contains__" ⟨[.ref a, .str y t], []⟩; again (.builtin "set.__contains__" ⟨[.ref a, .str y t], []⟩)) else _) _ _ s
  rw [if_pos (by decide)]
  refine wpAny_bind (sc_check ho' ?_)
  refine wpAny_pure ?_
  refine ⟨Code.quiet_builtin _ (by decide +kernel), codeAny_builtin entry_set_contains ?_⟩
  unfold Builtin.«frozenset.__contains__» Builtin.Frozenset.oneOther
  simp only [List.isEmpty_nil, bind_assoc]
  unfold Builtin.Frozenset.addrOf Builtin.Frozenset.withSetAsKey setContains
  refine wpAny_bind (wpAny_pure ?_)
  try dsimp only
  refine wpAny_bind (wpAny_pure ?_)
  try dsimp only
  refine wpAny_bind (wpAny_tryCatch ?_)
  refine wpAny_holding ?_
  refine wpAny_bind ((strKind prog w).pyHash (strKind_is _ _ _ _) ?_)
  refine wpAny_bind (wpAny_setFind_of (knd := strKind prog w) (s := { s with toks := s.toks + 1 }) (strKind_is _ _ _ _) rfl hS fun r hr => ?_)
  refine wpAny_pure ?_
  show wpAny _ _ (ret (Value.bool r.isSome)) _ _ _
  rw [hr]
  exact wpAny_pure h
end
-- TI
namespace MF
theorem slot_init : Slot "filter" "__init__" "object.__init__" :=
  .of (owner := "object") (n := "__init__") (by rw [typeLookup_type, builtinLookup_eq_fast]; kernel_rfl) (by decide +kernel) (by decide +kernel) (by decide +kernel)
    (by first | exact .inl (by decide +kernel) | exact .inr (by decide +kernel)) (by rw [isSubtype_type]; kernel_rfl)
theorem slot_iter : Slot "filter" "__iter__" "filter.__iter__" :=
  .of (owner := "filter") (n := "__iter__") (by rw [typeLookup_type, builtinLookup_eq_fast]; kernel_rfl) (by decide +kernel) (by decide +kernel) (by decide +kernel)
    (by first | exact .inl (by decide +kernel) | exact .inr (by decide +kernel)) (by rw [isSubtype_type]; kernel_rfl)
theorem slot_next : Slot "filter" "__next__" "filter.__next__" :=
  .of (owner := "filter") (n := "__next__") (by rw [typeLookup_type, builtinLookup_eq_fast]; kernel_rfl) (by decide +kernel) (by decide +kernel) (by decide +kernel)
    (by first | exact .inl (by decide +kernel) | exact .inr (by decide +kernel)) (by rw [isSubtype_type]; kernel_rfl)
theorem entry_next : entryFor table "filter.__next__" = some Builtin.«filter.__next__» := entryFor_of_tree (by kernel_rfl)
theorem entry_new : entryFor table "filter.__new__" = some Builtin.«filter.__new__» := entryFor_of_tree (by kernel_rfl)
theorem entry_iter : entryFor table "filter.__iter__" = some Builtin.«dict_keyiterator.__iter__» :=
  entryFor_alias (id' := "dict_keyiterator.__iter__") (by kernel_rfl) (by first | rfl | decide +kernel | (unfold String.splitOn; simp +decide [String.splitOnAux])) (by decide +kernel) (by kernel_rfl)
theorem args_next (a : Value) : argsOk "filter.__next__" ⟨[a], []⟩ := by unfold argsOk; kernel_rfl
theorem args_iter (a : Value) : argsOk "filter.__iter__" ⟨[a], []⟩ := by unfold argsOk; kernel_rfl
theorem mro : mroOf (.type "filter") = Pure.pure [.type "filter", .type "object"] := by rw [mroOf_type]; kernel_rfl
theorem lookup_new : typeLookup (.type "filter") "__new__" = Pure.pure (some (.builtin "filter.__new__")) := by rw [typeLookup_type, builtinLookup_eq_fast]; kernel_rfl
theorem called : TypeCalled "filter" "filter.__new__" "object.__init__" :=
  ⟨by decide +kernel, by decide +kernel, ⟨_, _, mro⟩, madeBy_type mro lookup_new (by decide +kernel), by decide +kernel, by rw [isSubtype_type]; kernel_rfl, slot_init⟩
theorem tcall (a b : Value) : checkTypeCall "filter" ⟨[a, b], []⟩ = Pure.pure () := by kernel_rfl
theorem ncall (a b : Value) : checkBuiltinCall "filter.__new__" ⟨[.type "filter", a, b], []⟩ = Pure.pure () := by kernel_rfl
theorem sub : isSubtype (.type "filter") (.type "filter") = Pure.pure true := by rw [isSubtype_type]; kernel_rfl
theorem no_len : typeLookup (.type "filter") "__len__" = Pure.pure none := by rw [typeLookup_type, builtinLookup_eq_fast]; kernel_rfl
theorem no_hint : typeLookup (.type "filter") "__length_hint__" = Pure.pure none := by rw [typeLookup_type, builtinLookup_eq_fast]; kernel_rfl
theorem plain_next : plainId "filter.__next__" = true := by decide +kernel
end MF
theorem meets_filter_new (q l : Addr) (xs : Array Value) :
    Meets (Builtin.«filter.__new__» ⟨[.type "filter", .ref q, .ref l], []⟩) (fun _ R s => s.heap.IsList l xs ∧
      R (.ok (.ret (.ref (s.heap.push (liO l 0)).objs.size))) { s with heap := (s.heap.push (liO l 0)).push (flO q s.heap.objs.size) }) :=
  .of_wp fun prog w A R s h => by
    obtain ⟨hp, g, d, tk, os⟩ := s; obtain ⟨hl, h⟩ := h
    have hsub := MF.sub
    have hL : Heap.IsList (Shared.heap ⟨hp, g, d, tk, os⟩) l xs := hl
    wp_walk using wpAny_pyIter_list hL
    exact ⟨_, rfl, h⟩
section
variable {prog : Program} {w : World} {A : Around} {E : Value → Shared → Prop} {s : Shared} {a q it l f : Addr} {S : Str → Bool} {n j : Nat} {vs : List Value} {e : Nat} {y : Str} {t : Tok}
theorem call_filter {xs : Array Value} {Q : Value → Shared → Prop} (hl : s.heap.IsList l xs) (h : Q (.ref (s.heap.push (liO l 0)).objs.size) { s with heap := (s.heap.push (liO l 0)).push (flO q s.heap.objs.size) }) :
    wpAny (model prog w) A (call (.type "filter") [.ref q, .ref l]) Q E s := by
  refine callType_new MF.called (by decide) (MF.tcall _ _) (MF.ncall _ _) (fun obj => PySem.F.args_object_init_3 obj _ _) MF.entry_new (meets_filter_new q l xs) ⟨hl, ?_⟩
  exact ⟨⟨_, Heap.get?_push_size _ rfl, rfl⟩, h⟩
theorem fl_next {P : Fin → Shared → Prop} (hf : s.heap.get? f = some (flO q it)) (hq : s.heap.get? q = some (bcO a)) (hS : s.heap.SetOf (strKind prog w) a S n) (hit : s.heap.get? it = some (liO l j)) (hl : s.heap.get? l = some (lst vs e)) (hv : vs[j]? = some (.str y t)) (hqi : q ≠ it) (hai : a ≠ it)
    (h : ∀ h', h'.get? it = some (liO l (j + 1)) → Heap.SameBut it s.heap h' → P (if S y = true then .done (.ret (.str y t)) else .again (.builtin "filter.__next__" ⟨[.ref f], []⟩)) { s with heap := h', toks := s.toks + 1 }) :
    wpAny (model prog w) A (Builtin.«filter.__next__» ⟨[.ref f], []⟩) P E s := by
  show wpAny _ _ (field (.ref f) 0 >>= _) _ _ s
  refine wpAny_bind (wpAny_field hf rfl (x := .ref q) rfl ?_)
  refine wpAny_bind (wpAny_field hf rfl (x := .ref it) rfl ?_)
  refine wpAny_bind (wpAny_callSpecial?_slot (name := Str.ofString "__next__") (T := "list_iterator") ⟨_, hit, rfl⟩ slot_listiter_next
    (wpAny_call_entry slot_listiter_next ⟨_, hit, rfl⟩ entry_listiter_next ?_ (args_listiter_next _)))
  refine li_item hit hl hv fun h' hit' hs => ?_
  refine ⟨_, rfl, ?_⟩
  show wpAny _ _ (holding [Value.str y t] _ >>= _) _ _ _
  refine wpAny_bind (wpAny_holding ?_)
  rw [if_neg (by show ¬ ((false || false) = true); decide)]
  refine wpAny_bind (sc_call (s := { s with heap := h' }) ((hs.2 q hqi).trans hq) (SetOf.same (fun o e => (hs.2 a hai).trans e) hS) ?_)
  refine wpAny_holding (wpAny_truthy_bool ?_)
  have := h h' hit' hs
  cases hb : S y with
  | true => rw [hb, if_pos rfl] at this; rw [if_pos rfl]; exact wpAny_pure this
  | false => rw [hb, if_neg Bool.false_ne_true] at this; rw [if_neg Bool.false_ne_true]; exact wpAny_pure this
theorem fl_end {P : Fin → Shared → Prop} (hh : A.handled = none) (hf : s.heap.get? f = some (flO q it)) (hit : s.heap.get? it = some (liO l j)) (hl : s.heap.get? l = some (lst vs e)) (hv : vs[j]? = none)
    (h : ∀ h' ea oe, (∀ b o, b ≠ it → s.heap.get? b = some o → h'.get? b = some o) → h'.get? ea = some oe → oe.cls = .type "StopIteration" → E (.ref ea) { s with heap := h' }) :
    wpAny (model prog w) A (Builtin.«filter.__next__» ⟨[.ref f], []⟩) P E s := by
  show wpAny _ _ (field (.ref f) 0 >>= _) _ _ s
  refine wpAny_bind (wpAny_field hf rfl (x := .ref q) rfl ?_)
  refine wpAny_bind (wpAny_field hf rfl (x := .ref it) rfl ?_)
  refine wpAny_bind (wpAny_callSpecial?_slot (name := Str.ofString "__next__") (T := "list_iterator") ⟨_, hit, rfl⟩ slot_listiter_next
    (wpAny_call_entry slot_listiter_next ⟨_, hit, rfl⟩ entry_listiter_next ?_ (args_listiter_next _)))
  exact li_end (A := A.in1) hh hit hl hv fun h' ea oe xs a0 hk hlt hea hc hd h1 h0 => h h' ea oe hk hea hc
/-- what the walk needs of the heap -/
structure FlAt (prog : Program) (w : World) (h : Heap) (f q a it l : Addr) (S : Str → Bool) (n j : Nat) (vs : List Value) (e : Nat) : Prop where
  hf : h.get? f = some (flO q it)
  hq : h.get? q = some (bcO a)
  hS : h.SetOf (strKind prog w) a S n
  hit : h.get? it = some (liO l j)
  hl : h.get? l = some (lst vs e)
theorem FlAt.to {h h' : Heap} (F : FlAt prog w h f q a it l S n j vs e) (hf : f ≠ it) (hq : q ≠ it) (ha : a ≠ it) (hl : l ≠ it) {j' : Nat} (hit : h'.get? it = some (liO l j')) (hs : Heap.SameBut it h h') : FlAt prog w h' f q a it l S n j' vs e :=
  ⟨(hs.2 f hf).trans F.hf, (hs.2 q hq).trans F.hq, SetOf.same (fun o e => (hs.2 a ha).trans e) F.hS, hit, (hs.2 l hl).trans F.hl⟩
theorem Walks.filter3 (hh : A.handled = none) {y0 y1 y2 : Str} {t0 t1 t2 : Tok} (h0 : S y0 = true) (h1 : S y1 = true) (h2 : S y2 = false) (hf : f ≠ it) (hq : q ≠ it) (ha : a ≠ it) (hl : l ≠ it) :
    Walks prog w A f [f, q, a, it, l] [it] 2 (fun i v => [Value.str y0 t0, .str y1 t1][i]? = some v) (fun i h => i ≤ 2 ∧ FlAt prog w h f q a it l S n i [.str y0 t0, .str y1 t1, .str y2 t2] e) where
  sub := fun b hb => by simp at hb; simp [hb]
  frame := fun i h h' st hk => ⟨st.1, hk f (by simp) _ st.2.hf, hk q (by simp) _ st.2.hq, SetOf.same (fun o e => hk a (by simp) o e) st.2.hS, hk it (by simp) _ st.2.hit, hk l (by simp) _ st.2.hl⟩
  item := fun i s Q E hi st hQ => by
    obtain ⟨_, F⟩ := st
    have hT : s.TypeIs (.ref f) "filter" := ⟨_, F.hf, rfl⟩
    have key : ∀ y t, [Value.str y0 t0, .str y1 t1][i]? = some (.str y t) → S y = true → wpAny (model prog w) A (pyNext (.ref f)) Q E s := fun y t hv hSy => by
      have hv' : [Value.str y0 t0, .str y1 t1, .str y2 t2][i]? = some (.str y t) := by
        rcases i with _ | _ | i
        · exact hv
        · exact hv
        · omega
      unfold pyNext
      refine wpAny_bind (wpAny_attempt (wpAny_callSpecial?_slot (name := Str.ofString "__next__") hT MF.slot_next (wpAny_call (codeAny_call_builtin MF.slot_next.plain MF.entry_next (MF.slot_next.check _ _ _ _ _ _ _ _ hT (MF.args_next _) ?_)))))
      refine fl_next F.hf F.hq F.hS F.hit F.hl hv' hq ha fun h' hit' hs => ?_
      rw [hSy, if_pos rfl]
      refine wpAny_pure (hQ _ h' _ hv ⟨by omega, F.to hf hq ha hl hit' hs⟩ fun b o hb e => (hs.2 b (fun x => hb (by simp [x]))).trans e)
    rcases i with _ | _ | i
    · exact key y0 t0 rfl h0
    · exact key y1 t1 rfl h1
    · omega
  done := fun s Q E st hQ => by
    obtain ⟨_, F⟩ := st
    have hT : s.TypeIs (.ref f) "filter" := ⟨_, F.hf, rfl⟩
    unfold pyNext
    refine wpAny_bind (wpAny_attempt (wpAny_callSpecial?_slot (name := Str.ofString "__next__") hT MF.slot_next (wpAny_call (codeAny_call_builtin MF.slot_next.plain MF.entry_next (MF.slot_next.check _ _ _ _ _ _ _ _ hT (MF.args_next _) ?_)))))
    refine fl_next (y := y2) (t := t2) F.hf F.hq F.hS F.hit F.hl rfl hq ha fun h' hit' hs => ?_
    rw [h2, if_neg Bool.false_ne_true]
    have F' := F.to hf hq ha hl hit' hs
    refine ⟨plainId_quiet MF.plain_next _, codeAny_builtin MF.entry_next ?_⟩
    rw [Around.under_plainId MF.plain_next _]
    refine fl_end (A := A.in1) hh F'.hf F'.hit F'.hl rfl fun h'' ea oe hk hea hc => ?_
    refine wpAny_bind (wpAny_isInstance (T := "StopIteration") (b := true) ⟨oe, hea, hc⟩ isSubtype_stop ?_)
    exact wpAny_pure (hQ _ _ fun b o hb e => hk b o (fun x => hb (by simp [x])) ((hs.2 b (fun x => hb (by simp [x]))).trans e))
  self := fun i s Q E st hQ => by
    have hT : s.TypeIs (.ref f) "filter" := ⟨_, st.2.hf, rfl⟩
    refine wpAny_pyIter_slot hT MF.slot_iter (wpAny_call_entry MF.slot_iter hT MF.entry_iter ?_ (MF.args_iter _))
    show wpAny _ _ (ret (.ref f)) _ _ s
    exact wpAny_pure ⟨_, rfl, "filter", _, hT, MF.slot_next.lookup, hQ⟩
end
-- TJ
section
variable {prog : Program} {w : World} {A : Around} {E : Value → Shared → Prop} {s : Shared} {a q it l f : Addr} {S : Str → Bool} {n j : Nat} {vs : List Value} {e : Nat} {y : Str} {t : Tok}
theorem hint_filter {Q : Bool → Shared → Prop} (hf : s.heap.get? f = some (flO q it)) (h : Q true s) : wpAny (model prog w) A (Builtin.List.listLengthHint (.ref f)) Q E s := by
  unfold Builtin.List.listLengthHint
  refine wpAny_bind (wpAny_specialOf (T := "filter") ⟨_, hf, rfl⟩ MF.no_len ?_)
  wp_delta
  refine wpAny_ite_split (fun hab => absurd hab Bool.false_ne_true) (fun _ => ?_)
  refine wpAny_ite_split (fun hab => absurd hab Bool.false_ne_true) (fun _ => ?_)
  refine wpAny_bind (wpAny_specialOf (T := "filter") ⟨_, hf, rfl⟩ MF.no_hint ?_)
  exact wpAny_pure h
theorem extend_walk {R : Result → Shared → Prop} {fp wr : List Addr} {N : Nat} {P : Nat → Value → Prop} {St : Nat → Heap → Prop} (W : Walks prog w A.in1 f fp wr N P St) (hn : N ≤ 1000) (hf : s.heap.get? f = some (flO q it)) (hst : St 0 s.heap)
    (S : Addr) (hSf : S ∉ fp) (hfS : S ≠ f) (res : Value) (c₀ : Nat) (hS : s.heap.get? S = some { cls := .type "list", data := .seq #[] c₀ })
    (hR : ∀ h' tk acc' c', (∀ b o, b ≠ S → b ∉ wr → s.heap.get? b = some o → h'.get? b = some o) → h'.get? S = some { cls := .type "list", dict := none, data := .seq acc' c', slots := #[] } →
      ItemsOf P acc' N → R (.ok (.ret res)) { s with heap := h', toks := tk }) :
    wpAny (model prog w) A.in1 (Builtin.List.listExtendWith (.ref S) (.ref f) res)
      (fun fin s' => match fin with | .done f => R (.ok f) s' | .again c' => c'.quiet = true ∧ codeAny (model prog w) A c' R s') (fun e s' => R (.error e) s') s := by
  unfold Builtin.List.listExtendWith
  refine wpAny_bind (wpAny_typeOf (T := "filter") ⟨_, hf, rfl⟩ ?_)
  have h1 : Builtin.List.listSameRef (.ref S) (.ref f) = false := by simp [Builtin.List.listSameRef, hfS]
  have h2 : (Value.type "filter" == Value.type "list") = false := by decide
  have h3 : (Value.type "filter" == Value.type "tuple") = false := by decide
  simp only [h1, h2, h3, Bool.or_false, Bool.false_eq_true, if_false]
  refine wpAny_bind (W.self 0 s _ _ hst ?_)
  refine wpAny_bind (wpAny_holding (hint_filter hf ?_))
  refine wpAny_ite_split (fun _ => ?_) (fun hx => absurd rfl hx)
  refine wpAny_bind (wpAny_rule ?_)
  refine wpAny_bind ?_
  show wpAny _ _ (updateSeq S (·.push .none) >>= fun _ => updateSeq S (·.pop)) _ _ _
  refine wpAny_bind (wpAny_updateSeq hS rfl ?_)
  have hS₂ := Heap.get?_update_self (Obj.mapSeq (·.push Value.none)) hS rfl
  refine wpAny_updateSeq (hz := by seq_fits) hS₂ rfl ?_
  have hS₃ := Heap.get?_update_self (Obj.mapSeq (·.pop)) hS₂ rfl
  have oth : ∀ b o, b ≠ S → s.heap.get? b = some o → ((s.heap.update S (Obj.mapSeq (·.push Value.none))).update S (Obj.mapSeq (·.pop))).get? b = some o :=
    fun b o hb e => (Heap.get?_update_other _ _ (Ne.symm hb)).trans ((Heap.get?_update_other _ _ (Ne.symm hb)).trans e)
  refine wpAny_pure ⟨plainId_quiet PySem.F.plain_extend_loop _, ?_⟩
  refine codeAny_extend_loopS W.toS (by rw [sizeLine_eq]; omega) S hSf res N 0 _ #[] _ rfl (Nat.zero_le _) (W.frame 0 _ _ hst fun b hb o e => oth b o (fun x => hSf (by rw [← x]; exact hb)) e) hS₃ (ItemsOf.nil _) fun s' acc' c' hm hS' hacc => ?_
  rw [Moved.eq_with hm]
  refine hR s'.heap s'.toks acc' c' (fun b o hb hw e => hm.heap b o (fun hmem => ?_) (oth b o hb e)) hS' hacc
  rcases List.mem_cons.mp hmem with e' | hmem
  · exact hb e'
  · exact hw hmem
theorem call_list_walk {Q : Value → Shared → Prop} {fp wr : List Addr} {N : Nat} {P : Nat → Value → Prop} {St : Nat → Heap → Prop} (W : Walks prog w A.in1.in1 f fp wr N P St) (hn : N ≤ 1000) (hf : s.heap.get? f = some (flO q it)) (hst : St 0 s.heap) (hfp : ∀ b ∈ fp, b < s.heap.objs.size)
    (hQ : ∀ h' tk acc' c', (∀ b o, b ∉ wr → s.heap.get? b = some o → h'.get? b = some o) →
      h'.get? s.heap.objs.size = some { cls := .type "list", dict := none, data := .seq acc' c', slots := #[] } → ItemsOf P acc' N → Q (.ref s.heap.objs.size) { s with heap := h', toks := tk }) :
    wpAny (model prog w) A (call (.type "list") [.ref f]) Q E s := by
  have lt : ∀ {b o}, s.heap.get? b = some o → b ≠ s.heap.objs.size := fun e => Nat.ne_of_lt (Heap.lt_size e)
  have hnf : s.heap.objs.size ∉ fp := fun hx => Nat.lt_irrefl _ (hfp _ hx)
  refine callType_codes (Q₁ := fun obj s₁ => obj = .ref s.heap.objs.size ∧ s₁ = { s with heap := s.heap.push { cls := .type "list", data := .seq #[] } }) PySem.F.called_list (PySem.F.typeCall_list_1 _) PySem.F.entry_list_init
    (code_list_new _ ⟨rfl, rfl⟩) fun obj s₁ h₁ => ?_
  obtain ⟨rfl, rfl⟩ := h₁
  have hS : (s.heap.push { cls := .type "list", data := .seq #[] }).get? s.heap.objs.size = some { cls := .type "list", data := .seq #[] } := Heap.get?_push_size _ rfl
  refine ⟨⟨_, hS, rfl⟩, PySem.F.args_list_init_2 _ _, ?_⟩
  generalize hS0 : s.heap.objs.size = S0 at *
  show wpAny _ _ (do let old ← Builtin.List.listItems (.ref S0); Builtin.List.listUpdate (.ref S0) (fun _ => #[]); letGo old.toList.reverse; Builtin.List.listExtendWith (.ref S0) (.ref f) .none) _ _ _
  refine wpAny_bind ?_
  unfold Builtin.List.listItems
  refine wpAny_bind (wpAny_seqItems hS rfl (wpAny_pure ?_))
  show wpAny _ _ (updateSeq S0 (fun _ => #[]) >>= fun _ => letGo (#[] : Array Value).toList.reverse >>= fun _ => Builtin.List.listExtendWith (.ref S0) (.ref f) .none) _ _ _
  refine wpAny_bind (wpAny_updateSeq hS rfl ?_)
  have hS₂ := Heap.get?_update_self (Obj.mapSeq (fun _ => (#[] : Array Value))) hS rfl
  have oth : ∀ b o, b ≠ S0 → s.heap.get? b = some o → ((s.heap.push { cls := .type "list", data := .seq #[] }).update S0 (Obj.mapSeq (fun _ => (#[] : Array Value)))).get? b = some o :=
    fun b o hb e => (Heap.get?_update_other _ _ (Ne.symm hb)).trans (Heap.get?_push_of_some _ e)
  refine wpAny_bind (wpAny_letGo ?_)
  refine extend_walk (A := A.in1) W hn (oth f _ (lt hf) hf) (W.frame 0 _ _ hst fun b hb o e => oth b o (lt e) e) S0 hnf (Ne.symm (lt hf)) .none _ hS₂ fun h' tk acc' c' hk hS' hacc => ?_
  exact ⟨rfl, hQ h' tk acc' c' (fun b o hb e => hk b o (lt e) hb (oth b o (lt e) e)) hS' hacc⟩
end
-- F20
inductive RnJ1 (ps : List Nat) (tr : Nat) (w : World) (l ml x dx d nl b3 L pl : Addr) (ks : Nat → Int × Tok) (t1 t2 t7 : Tok) (rv nu : List Value) (en : Nat) (tb : Array Value) (led : Led) (i : Nat) (m₁ : Loc) (l₁ : Led) : Prop
  | mk (kv : Option Value) (o : Obj) (nds : List Nd) (hm : m₁ = [(Str.ofString "parents", some (.ref l)), (Str.ofString "modes", some (.ref ml)), (Str.ofString "turn", some (.int (tr : Nat) t7)), (Str.ofString "sorter", some (.ref x)), (Str.ofString "nodes", some (.ref nl)), (Str.ofString "kept", none), (Str.ofString "rounds", none), (Str.ofString "ready", none), (Str.ofString "lines", none)]) (A : Adds (fun k => ps.getD k 0) ps.length ((rot ps.length tr).take i) ((rot ps.length tr).take i) nds) (hd : IntD w o (kvsOf nds.reverse)) (hl : l₁ = Core x dx d o ks .none (.int 0 t1) (.int 0 t2) nds ((b3, lst rv 0) :: (L + 1 + 1, cellO kv) :: (nl, lst nu en) :: (L + 1, cellO (some (Value.ref pl))) :: (267, tabObj tb) :: led))
inductive RnJ2 (ps : List Nat) (ms : List (Nat × Nat)) (tr : Nat) (dom : List Nat) (w : World) (l ml x dx d nl kl rol rl L pl : Addr) (o : Obj) (ks : Nat → Int × Tok) (t7 : Tok) (led : Led) (nn : Nat) (m₁ : Loc) (l₁ : Led) : Prop
  | mk (D : Nat) (q : List Nat) (kv : List Value) (ek : Nat) (rv : List Value) (er : Nat) (us : List Value) (e : Nat) (nds : List Nd) (po : Int) (tp tf : Tok) (tb : Array Value) (g : Led) (ck ar al : Option Value)
    (hnn : nn = 20 - D) (hrn : ∀ j < D, roundAt ps j ≠ []) (hq : q.Perm (roundAt ps D)) (hus : IntsAre us (nat2 q)) (S : Stt dom (npAt ps D) (scOf ps tr) nds) (hd : IntD w o (kvsOf nds.reverse)) (hkv : StrsAre kv ((List.range ps.length).map fun k => if dep ps k < D then climbed ps ms k else Str.ofString "lost")) (hrv : ListsAre g rv ((List.range D).map (roundAt ps))) (hLT : LamTab lamPos lamQual tb (g ++ led))
    (hm : m₁ = runM l ml x nl kl rol (.int (tr : Nat) t7) ar al) (hl : l₁ = Core x dx d o ks (.ref rl) (.int po tp) (.int po tf) nds ((rl, lst us e) :: (267, tabObj tb) :: (kl, lst kv ek) :: (rol, lst rv er) :: (L + 1 + 1, cellO ck) :: (L + 1, cellO (some (Value.ref pl))) :: (g ++ led)))
inductive RnJ3 (ps : List Nat) (ms : List (Nat × Nat)) (tr D : Nat) (q : List Nat) (l ml x dx d nl kl rol rl ta L pl : Addr) (o : Obj) (ks : Nat → Int × Tok) (t7 t8 tf : Tok) (po : Int) (nds2 : List Nd) (us rv1 : List Value) (e4 er1 : Nat) (led : Led) (i : Nat) (m₁ : Loc) (l₁ : Led) : Prop
  | mk (kv : List Value) (ek : Nat) (tb : Array Value) (g2 : Led) (ck al : Option Value) (hkv : StrsAre kv ((List.range ps.length).map fun k => if dep ps k < D ∨ k ∈ q.take i then climbed ps ms k else Str.ofString "lost")) (hLT : LamTab lamPos lamQual tb (g2 ++ led)) (hrv : ListsAre g2 rv1 ((List.range (D + 1)).map (roundAt ps)))
    (hm : m₁ = runM l ml x nl kl rol (.int (tr : Nat) t7) (some (.ref ta)) al) (hl : l₁ = Core x dx d o ks (.ref rl) (.int (po + q.length) t8) (.int po tf) nds2 ((rl, lst [] e4) :: (ta, tup us) :: (267, tabObj tb) :: (kl, lst kv ek) :: (rol, lst rv1 er1) :: (L + 1 + 1, cellO ck) :: (L + 1, cellO (some (Value.ref pl))) :: (g2 ++ led)))
inductive RnQ (ps : List Nat) (ms : List (Nat × Nat)) (k tr : Nat) (l ml x nl kl rol ta L pl : Addr) (t7 tv : Tok) (kv : List Value) (ek : Nat) (RR g2 led : Led) (f : Flow) (m₁ : Loc) (l₁ : Led) : Prop
  | mk (hf : f = .next) (lb : Addr) (lv : List Value) (tb1 : Array Value) (new : Led) (le : Nat) (hm : m₁ = runM l ml x nl kl rol (.int (tr : Nat) t7) (some (.ref ta)) (some (.ref lb))) (hLT : LamTab lamPos lamQual tb1 (new ++ (g2 ++ led))) (hlb : (lb, lst lv le) ∈ new)
    (hR : RulesAre (new ++ (g2 ++ led)) lv ((ownOf ms k).map (fun md => (pathOf ps k, vN md)) ++ if k = 0 then [] else [(pathOf ps (ps.getD k 0), climbed ps ms (ps.getD k 0))])) (hpm : ((267, tabObj tb1) :: (new ++ ((L + 1 + 1, cellO (some (.int (k : Nat) tv))) :: (kl, lst kv ek) :: (L + 1, cellO (some (Value.ref pl))) :: (RR ++ (g2 ++ led))))).Perm l₁)
section
variable {c : Cx} {m : Loc} {led : Led} {X : Value → Loc → Led → Prop} {Q : Value → Loc → Led → Prop} {env : Env}
set_option maxHeartbeats 1000000 in
theorem run_T {n : Nat} (G : Gd c (n + 6)) {ps : List Nat} {ms : List (Nat × Nat)} (H : TreeOk ps ms) {l pl ml : Addr} {us pv ws : List Value} {e e1 e2 : Nat} (hl : (l, lst us e) ∈ led) (hu : IntsAre us (nat2 ps)) (hp : (pl, lst pv e1) ∈ led) (hpv : StrsAre pv ((List.range ps.length).map (pathOf ps))) (hm : (ml, lst ws e2) ∈ led) (hw : Pairs led ws ms) {tn : Int} {tt : Tok} {tb : Array Value} (hT : LamTab lamPos lamQual tb led)
    (h : ∀ a ka kv ek ra rv er tb' g D, LamTab lamPos lamQual tb' (g ++ led) → StrsAre kv ((List.range ps.length).map (climbed ps ms)) → (∀ j < D, roundAt ps j ≠ []) → roundAt ps D = [] → ListsAre g rv ((List.range D).map (roundAt ps)) → Q (.ref a) m ((267, tabObj tb') :: (a, tup [.ref ka, .ref ra]) :: (ka, lst kv ek) :: (ra, lst rv er) :: (g ++ led))) :
    T c m ((267, tabObj tb) :: led) (call (.ref 291) [.ref l, .ref pl, .ref ml, .int tn tt]) Q X := by
  refine T.defC (binds := [(Str.ofString "parents", .ref l), (Str.ofString "paths", .ref pl), (Str.ofString "modes", .ref ml), (Str.ofString "turn", .int tn tt)]) 2 [(Str.ofString "parents", none), (Str.ofString "modes", none), (Str.ofString "turn", none), (Str.ofString "sorter", none), (Str.ofString "nodes", none), (Str.ofString "kept", none), (Str.ofString "rounds", none), (Str.ofString "ready", none), (Str.ofString "lines", none)] G rfl (by kernel_rfl) (by kernel_rfl) (fun _ => rfl) (lookL_none rfl) rfl rfl rfl ?_
  intro c' A' hcw G'
  refine T.store (by kernel_rfl) (by with_unfolding_all rfl) (by kernel_rfl) ?_
  refine T.store_c (by kernel_rfl) (by kernel_rfl) (by with_unfolding_all rfl) (Up.tail Up.head) ?_
  refine T.store (by kernel_rfl) (by with_unfolding_all rfl) (by kernel_rfl) ?_
  refine T.store (by kernel_rfl) (by with_unfolding_all rfl) (by kernel_rfl) ?_
  show T c' _ _ _ _ _
  repeat' wtm_at "c"
  refine T.global G' (g_Sorter _) rfl rfl (by kernel_rfl) (by kernel_rfl) ?_
  refine T.cw G' (by kernel_rfl) ?_
  repeat' wtm_at "c"
  refine sorter_T G' fun x dx ks d o t1 t2 lo hd => ?_
  repeat' wtm_at "c"
  refine T.bltn G' (g_no_list _) b_list (by decide) rfl rfl rfl (by kernel_rfl) (by kernel_rfl) ?_
  refine T.cwt ?_
  repeat' wtm_at "c"
  wtm_at "range"
  wtm_at "len"
  have hul := ints_len hu
  have hNlo := H.lo
  have hNhi := H.hi
  refine T.len (l := l) (by wtm_at "mem") (by omega) fun t3 => ?_
  repeat' wtm_at "c"
  refine T.range1 fun r t4 t5 => ?_
  rw [hul]
  repeat' wtm_at "c"
  refine T.listR (n := ps.length) G'.hdl (.head _) (by omega) fun nl nu en hnu => ?_
  have hnul := ints_len hnu
  rw [List.length_range] at hnul
  repeat' wtm_at "c"
  wtm_at "len"
  refine T.len (l := nl) (by wtm_at "mem") (by omega) fun t6 => ?_
  rw [hnul]
  refine T.mod (by omega) fun t7 => ?_
  repeat' wtm_at "c"
  obtain ⟨tr, htr⟩ : ∃ tr : Nat, tn.fmod (ps.length : Nat) = (tr : Int) := ⟨_, (Int.toNat_of_nonneg (Int.fmod_nonneg_of_pos _ (by omega))).symm⟩
  rw [htr]
  refine T.for (fun _ => rfl) ?_
  repeat' wtm_at "c"
  refine T.slice (T.psome ?_)
  repeat' wtm_at "c"
  refine T.pnone (T.pnone ?_)
  intro s1
  refine T.sub_slice (l := nl) [.ref s1, .ref nl] (by wtm_at "mem") (.head _) (.int _ _) .none .none (by decide) (by unfold sizeLine; omega) (by kernel_rfl) fun b1 => ?_
  repeat' wtm_at "c"
  refine T.slice (T.pnone (T.psome ?_))
  repeat' wtm_at "c"
  refine T.pnone ?_
  intro s2
  refine T.sub_slice (l := nl) [.ref s2, .ref nl] (by wtm_at "mem") (.head _) .none (.int _ _) .none (by decide) (by unfold sizeLine; omega) (by kernel_rfl) fun b2 => ?_
  rw [slicePick_from', slicePick_upto']
  refine T.addl (x := b1) (y := b2) (by wtm_at "mem") (by wtm_at "mem") (by simp; unfold sizeLine; omega) fun b3 => ?_
  have hrot : IntsAre (nu.drop tr ++ nu.take tr) (nat2 (rot ps.length tr)) := by
    unfold rot nat2
    rw [List.map_append, List.map_drop, List.map_take]
    exact IntsAre.append (IntsAre.drop hnu tr) (IntsAre.take hnu tr)
  simp only [List.toList_toArray]
  generalize hrv : nu.drop tr ++ nu.take tr = rv at hrot ⊢
  have hrl := ints_len hrot
  have hrN : (rot ps.length tr).length = ps.length := by rw [(rot_perm _ _).length_eq, List.length_range]
  generalize hm0 : setL (Str.ofString "turn") (Value.int (↑tr) t7) (setL (Str.ofString "nodes") (Value.ref nl) (setL (Str.ofString "sorter") (Value.ref x) (setL (Str.ofString "turn") (Value.int tn tt) (setL (Str.ofString "modes") (Value.ref ml) (setL (Str.ofString "parents") (Value.ref l) [(Str.ofString "parents", none), (Str.ofString "modes", none), (Str.ofString "turn", none), (Str.ofString "sorter", none), (Str.ofString "nodes", none), (Str.ofString "kept", none), (Str.ofString "rounds", none), (Str.ofString "ready", none), (Str.ofString "lines", none)]))))) = m0
  have hm0' : m0 = [(Str.ofString "parents", some (.ref l)), (Str.ofString "modes", some (.ref ml)), (Str.ofString "turn", some (.int (tr : Nat) t7)), (Str.ofString "sorter", some (.ref x)), (Str.ofString "nodes", some (.ref nl)), (Str.ofString "kept", none), (Str.ofString "rounds", none), (Str.ofString "ready", none), (Str.ofString "lines", none)] := by rw [← hm0]; rfl
  clear hm0
  subst hm0'
  refine T.part (l' := Core x dx d o ks .none (.int 0 t1) (.int 0 t2) [] ((b3, lst rv 0) :: (c'.L + 1 + 1, cellO none) :: (nl, lst nu en) :: (c'.L + 1, cellO (some (Value.ref pl))) :: (267, tabObj tb) :: led)) (by
    show Sub ((x, _) :: (dx, _) :: (d, o) :: (b3, lst rv 0) :: (c'.L + 1 + 1, cellO none) :: (nl, lst nu en) :: (c'.L + 1, cellO (some (Value.ref pl))) :: (267, tabObj tb) :: led) _
    wtm_at "sub") ?_
  refine T.iter_list (x := b3) (vs := rv) (n := 0) G'.hdl (fun p hp => ?_) fun I oI S0 W hS => ?_
  · rw [List.mem_singleton.mp hp]; exact .inl (.tail _ (.tail _ (.tail _ (.head _))))
  refine TC.for W hS (RnJ1 ps tr c'.w l ml x dx d nl b3 c'.L pl ks t1 t2 t7 rv nu en tb led) ?_ ?_ ?_ ?_
  · rintro i m₁ l₁ ⟨_, _, _, _, _, _, rfl⟩ p hp
    rw [List.mem_singleton.mp hp]; exact .inl (by wtm_at "mem2")
  · refine ⟨none, o, [], rfl, ⟨List.nodup_nil, (fun _ h => by cases h), (fun _ h => by cases h), (fun _ h => by cases h), (fun _ h => by simp at h), (fun _ h => by simp at h)⟩, hd, rfl⟩
  · rintro i v oi m₁ l₁ hi hv ⟨kv, o, nds, rfl, A, hd, rfl⟩
    have hir : i < (rot ps.length tr).length := by omega
    obtain ⟨tv, hat⟩ := ints_at hrot hir
    rw [hv] at hat; cases hat
    have hgd : (rot ps.length tr)[i]? = some ((rot ps.length tr).getD i 0) := by rw [List.getD_eq_getElem?_getD, List.getElem?_eq_getElem hir]; rfl
    generalize (rot ps.length tr).getD i 0 = k at hgd hv ⊢
    have hkN : k < ps.length := rot_mem.mp (List.mem_of_getElem? hgd)
    have hka := nodup_take (rot_nodup ps.length tr) hgd
    refine T.perm (led' := Core x dx d o ks .none (.int 0 t1) (.int 0 t2) nds ((I, oi) :: (b3, lst rv 0) :: (c'.L + 1 + 1, cellO kv) :: (nl, lst nu en) :: (c'.L + 1, cellO (some (Value.ref pl))) :: (267, tabObj tb) :: led)) perm_core ?_
    refine T.asName ?_
    refine T.store_c (led' := Core x dx d o ks .none (.int 0 t1) (.int 0 t2) nds ((I, oi) :: (b3, lst rv 0) :: (c'.L + 1 + 1, cellO (some (.int (k : Nat) tv))) :: (nl, lst nu en) :: (c'.L + 1, cellO (some (Value.ref pl))) :: (267, tabObj tb) :: led)) (by kernel_rfl) (by kernel_rfl) (by with_unfolding_all rfl) (.tail (.tail (.tail (Up.app (.tail (.tail .head)))))) ?_
    wtm_at "c"
    wtm_at "c"
    wtm_at "c"
    refine T.name_c (a := c'.L + 1 + 1) (v := .int (k : Nat) tv) (by kernel_rfl) (by kernel_rfl) (by kernel_rfl) (by with_unfolding_all rfl) (by wtm_at "mem2") ?_
    repeat' wtm_at "c"
    by_cases hk0 : k = 0
    · subst hk0
      rw [if_pos (by decide)]
      repeat' wtm_at "c"
      refine T.mcall (by kernel_rfl) (by kernel_rfl) ?_
      repeat' wtm_at "c"
      refine T.imethod (dx := dx) G' (by wtm_at "mem") (by wtm_at "mem") (by kernel_rfl) (f := 136) (by kernel_rfl) (by kernel_rfl) (by kernel_rfl) ?_
      refine T.cw G' (by kernel_rfl) ?_
      repeat' wtm_at "c"
      refine add0_T G' lo hd A (by omega) (by omega) fun o' nds' A' hd' => ?_
      repeat' wtm_at "c"
      exact ⟨_, perm_core.symm, _, o', nds', rfl, by rw [take_snoc hgd]; exact A', hd', rfl⟩
    · rw [if_neg (by simpa using hk0)]
      repeat' wtm_at "c"
      refine T.mcall (by kernel_rfl) (by kernel_rfl) ?_
      repeat' wtm_at "c"
      refine T.imethod (dx := dx) G' (by wtm_at "mem") (by wtm_at "mem") (by kernel_rfl) (f := 136) (by kernel_rfl) (by kernel_rfl) (by kernel_rfl) ?_
      refine T.cw G' (by kernel_rfl) ?_
      wtm_at "c"
      refine T.name_c (a := c'.L + 1 + 1) (v := .int (k : Nat) tv) (by kernel_rfl) (by kernel_rfl) (by kernel_rfl) (by with_unfolding_all rfl) (by wtm_at "mem2") ?_
      repeat' wtm_at "c"
      obtain ⟨tq, hatp⟩ := ints_at hu hkN
      refine T.itemN (l := l) (vs := us) (n := e) (by wtm_at "mem2") (by omega) hatp rfl ?_
      repeat' wtm_at "c"
      have hlt := H.tree.lt k (by omega) hkN
      refine add1_T (par := fun k => ps.getD k 0) G' lo hd A (by omega) hkN hk0 (by show ps.getD k 0 < _; omega) hka (by rw [List.length_take]; omega) fun o' nds' A' hd' => ?_
      repeat' wtm_at "c"
      exact ⟨_, perm_core.symm, _, o', nds', rfl, by rw [take_snoc hgd]; exact A', hd', rfl⟩
  · rintro m₁ l₁ ⟨kv, o, nds, rfl, A, hd, rfl⟩
    rw [hrl, List.take_length] at A
    have S := A.stt
    have hdom := A.dom
    have hdl : (nds.map (·.k)).length ≤ 10 := by rw [List.length_map]; have := A.len; omega
    repeat' wtm_at "c"
    refine T.mcall (by kernel_rfl) (by kernel_rfl) ?_
    repeat' wtm_at "c"
    refine T.imethod (dx := dx) G' (by wtm_at "mem") (by wtm_at "mem") (by kernel_rfl) (f := 141) (by kernel_rfl) (by kernel_rfl) (by kernel_rfl) ?_
    refine T.cw G' (by kernel_rfl) ?_
    repeat' wtm_at "c"
    refine prepare_T G' lo S hd (fun k hk s hs => ?_) (by omega) (fun k => by have := scOf_len ps tr k; omega) ((hdom 0).mpr (by omega)) (fun k _ => by by_cases h0 : k = 0 <;> simp [h0]) fun rl ru re hru => ?_
    · obtain ⟨h1, h2, h3⟩ := scOf_mem.mp hs
      refine ⟨(hdom s).mpr h1, ?_⟩
      have := H.tree.lt s (by omega) h1
      omega
    generalize nds.map (·.k) = dom at S hdom hdl
    repeat wtm_at "un"
    show T c' _ _ _ _ _
    refine T.execs_cons ?_
    refine T.assign_comp (cl := []) (by kernel_rfl) (by kernel_rfl) (by kernel_rfl) (by kernel_rfl) (by kernel_rfl) (by with_unfolding_all rfl) (by kernel_rfl) ?_
    repeat' wtm_at "c"
    refine T.itA_list (x := nl) (vs := nu) (n := en) G'.hdl (fun p hp => ?_) fun I2 oI2 S2 W2 hS2 => ?_
    · rw [List.mem_singleton.mp hp]; exact .inl (by wtm_at "mem2")
    refine TK.loop W2 hS2 G' 0 (fun _ => rfl) (fun c'' i m₁ vs l₁ => ∃ o1, m₁ = [(Str.ofString ".0", none), (Str.ofString "k", o1)] ∧ l₁ = Core x dx d o ks (.ref rl) (.int 0 t1) (.int 0 t2) nds ((rl, lst ru re) :: (b3, lst rv 0) :: (c'.L + 1 + 1, cellO kv) :: (nl, lst nu en) :: (c'.L + 1, cellO (some (Value.ref pl))) :: (267, tabObj tb) :: led) ∧ StrsAre vs ((List.range i).map fun _ => Str.ofString "lost")) [(Str.ofString ".0", none), (Str.ofString "k", none)] (lookL_none rfl) ?_ ?_ ?_ ?_
    · rintro c'' i m₁ vs l₁ ⟨_, _, rfl, _⟩ p hp
      rw [List.mem_singleton.mp hp]; exact .inl (by wtm_at "mem2")
    · intro c'' _ _ _
      exact ⟨none, rfl, rfl, .nil⟩
    · rintro c'' i v oi acc vs m₁ l₁ hcw2 hA2 G'' hst hi hv ⟨o1, rfl, rfl, hvs⟩
      refine T.asName ?_
      repeat' wtm_at "c"
      refine T.tests_nil ?_
      rw [if_pos rfl]
      repeat' wtm_at "c"
      refine ⟨by have := StrsAre.len_eq hvs; rw [List.length_map, List.length_range] at this; unfold sizeLine; omega, _, .refl _, _, rfl, rfl, ?_⟩
      rw [List.range_succ, List.map_append]
      exact StrsAre.snoc hvs
    · rintro c'' kl m₁ kv0 l₁ ⟨_, _, rfl, hkv0⟩
      rw [hnul] at hkv0
      show T c' _ _ _ _ _
      repeat' wtm_at "c"
      refine T.list (by kernel_rfl) ?_
      refine T.snil ⟨by decide, fun rol => ?_⟩
      repeat' wtm_at "c"
      refine T.part (l' := Core x dx d o ks (.ref rl) (.int 0 t1) (.int 0 t2) nds ((rl, lst ru re) :: (267, tabObj tb) :: (kl, lst kv0 kv0.length) :: (rol, lst [] 0) :: (c'.L + 1 + 1, cellO kv) :: (c'.L + 1, cellO (some (Value.ref pl))) :: ([] ++ led))) ?_ ?_
      · refine Sub.trans (sub_mid (X := (rol, lst [] 0) :: (kl, lst kv0 kv0.length) :: (rl, lst ru re) :: (b3, lst rv 0) :: (c'.L + 1 + 1, cellO kv) :: (nl, lst nu en) :: (c'.L + 1, cellO (some (Value.ref pl))) :: (267, tabObj tb) :: led) ?_) sub_in2
        show Sub ((rl, lst ru re) :: (267, tabObj tb) :: (kl, lst kv0 kv0.length) :: (rol, lst [] 0) :: (c'.L + 1 + 1, cellO kv) :: (c'.L + 1, cellO (some (Value.ref pl))) :: led) _
        wtm_at "sub"
      refine T.while (RnJ2 ps ms tr dom c'.w l ml x dx d nl kl rol rl c'.L pl o ks t7 led) 20 ?_ ?_
      · refine ⟨0, [0], kv0, _, [], 0, ru, re, nds, 0, t1, t2, tb, [], kv, _, _, rfl, (fun j hj => absurd hj (Nat.not_lt_zero _)), by rw [round_zero H.tree], hru, ?_, hd, ?_, .nil, hT, rfl, rfl⟩
        · refine S.ext fun k hk => ?_
          unfold npAt
          have := dep_zero H.tree ((hdom k).mp hk)
          by_cases h0 : k = 0
          · rw [if_neg (by omega), if_pos (this.mpr h0), if_pos h0]
          · rw [if_neg (by omega), if_neg (fun q => h0 (this.mp q)), if_neg h0]
        · have : ((List.range ps.length).map fun k => if dep ps k < 0 then climbed ps ms k else Str.ofString "lost") = (List.range ps.length).map fun _ => Str.ofString "lost" := List.map_congr_left fun k _ => if_neg (Nat.not_lt_zero _)
          rw [this]; exact hkv0
      clear hkv0 hru S hd A
      rintro nn m₁ l₁ ⟨D, q, kv, ek, rv, er, us, e3, nds, po, tp, tf, tb, g, ck, ar, al, hnn, hrn, hq, hus, S, hd, hkv, hrv2, hLT, rfl, rfl⟩
      have hql := hq.length_eq
      have hrl2 : (roundAt ps D).length ≤ ps.length := by unfold roundAt; exact Nat.le_trans (List.length_filter_le ..) (by rw [List.length_range]; exact Nat.le_refl _)
      have husl := ints_len hus
      refine T.truth rfl ?_
      refine T.mcall (by kernel_rfl) (by kernel_rfl) ?_
      repeat' wtm_at "c"
      refine T.imethod (dx := dx) G' (by wtm_at "mem") (by wtm_at "mem") (by kernel_rfl) (f := 155) (by kernel_rfl) (by kernel_rfl) (by kernel_rfl) ?_
      refine T.cw G' (by kernel_rfl) ?_
      repeat' wtm_at "c"
      refine active_T G' (by omega) ?_
      rw [decide_eq_false (Int.lt_irrefl po), Bool.false_or]
      refine T.truthy_bool ?_
      by_cases hue : us = []
      · subst hue
        have hqe : q = [] := List.eq_nil_of_length_eq_zero husl.symm
        subst hqe
        have hDe : roundAt ps D = [] := List.eq_nil_of_length_eq_zero hql.symm
        rw [if_neg (by decide)]
        repeat wtm_at "un"
        show T c' _ _ _ _ _
        wtm_at "c"
        wtm_at "c"
        refine T.tuple (by kernel_rfl) ?_
        repeat' wtm_at "c"
        refine ⟨by show 2 ≤ _; decide, fun a => ?_⟩
        have hkv' : StrsAre kv ((List.range ps.length).map (climbed ps ms)) := by
          have : ((List.range ps.length).map fun k => if dep ps k < D then climbed ps ms k else Str.ofString "lost") = (List.range ps.length).map (climbed ps ms) := List.map_congr_left fun k hk => if_pos (dep_lt H.tree hDe k (List.mem_range.mp hk))
          rw [← this]; exact hkv
        repeat wtm_at "un"
        refine ⟨_, ?_, h a kl kv ek rol rv er tb g D hLT hkv' hrn hDe hrv2⟩
        refine Sub.trans ?_ (Sub.keep (.cons (.cons (.cons (Sub.app (.refl _))))))
        wtm_at "sub"
      · rw [if_pos (by cases us; exact (hue rfl).elim; rfl)]
        have hqne : q ≠ [] := fun x => hue (List.eq_nil_of_length_eq_zero (by rw [husl, x]; rfl))
        have hqm : ∀ k, k ∈ q ↔ k < ps.length ∧ dep ps k = D := fun k => by rw [hq.mem_iff]; exact round_mem
        wtm_at "c"
        refine T.assign (by kernel_rfl) ?_
        refine T.mcall (by kernel_rfl) (by kernel_rfl) ?_
        repeat' wtm_at "c"
        refine T.imethod (dx := dx) G' (by wtm_at "mem") (by wtm_at "mem") (by kernel_rfl) (f := 148) (by kernel_rfl) (by kernel_rfl) (by kernel_rfl) ?_
        refine T.cw G' (by kernel_rfl) ?_
        repeat' wtm_at "c"
        refine get_ready_T G' S hd hus (fun r hr => (hdom r).mpr ((hqm r).mp hr).1) hqne (by omega) fun ta t8 nds2 e4 S2 hd2 => ?_
        show T c' _ _ _ _ _
        repeat' wtm_at "c"
        refine T.mcall (by kernel_rfl) (by kernel_rfl) ?_
        repeat' wtm_at "c"
        refine T.list_method (vs := rv) (n := er) (by wtm_at "mem2") F.slot_list_append F.type_list_append ?_
        refine T.cwb ?_
        repeat' wtm_at "c"
        refine T.bltn G' (g_no_sorted _) b_sorted (by decide) rfl rfl rfl (by kernel_rfl) (by kernel_rfl) ?_
        refine T.cwb ?_
        repeat' wtm_at "c"
        refine T.sortedT (x := ta) (by wtm_at "mem2") hus (by omega) fun sa sv sn se hsv hsp hss => ?_
        have hsn : sn = nat2 (roundAt ps D) := sort_uniq (hsp.trans (hq.map _)) hss (round_sorted ps D)
        subst hsn
        repeat' wtm_at "c"
        have hrvl : rv.length = D := by rw [hrv2.1]; simp
        have hD10 : D ≤ 10 := by
          rcases Nat.eq_zero_or_pos D with z | z
          · omega
          · have h1 := hrn (D - 1) (by omega)
            obtain ⟨a, ha⟩ := List.exists_mem_of_ne_nil _ h1
            obtain ⟨h2, h3⟩ := round_mem.mp ha
            have := dep_le ps a
            omega
        refine T.append (vs := rv) (n := er) (led' := (sa, lst sv se) :: Core x dx d o ks (.ref rl) (.int (po + q.length) t8) (.int po tf) nds2 ((rl, lst [] e4) :: (ta, tup us) :: (267, tabObj tb) :: (kl, lst kv ek) :: (rol, lst (rv ++ [.ref sa]) (er + 1)) :: (c'.L + 1 + 1, cellO ck) :: (c'.L + 1, cellO (some (Value.ref pl))) :: (g ++ led))) (.tail (.tail (.tail (.tail (Up.app (.tail (.tail (.tail (.tail .head))))))))) (by unfold sizeLine; omega) ?_
        repeat wtm_at "un"
        refine T.part (l' := Core x dx d o ks (.ref rl) (.int (po + q.length) t8) (.int po tf) nds2 ((rl, lst [] e4) :: (ta, tup us) :: (267, tabObj tb) :: (kl, lst kv ek) :: (rol, lst (rv ++ [.ref sa]) (er + 1)) :: (c'.L + 1 + 1, cellO ck) :: (c'.L + 1, cellO (some (Value.ref pl))) :: (((sa, lst sv se) :: g) ++ led))) ?_ ?_
        · refine Sub.trans (sub_mid (X := (sa, lst sv se) :: (rl, lst [] e4) :: (ta, tup us) :: (267, tabObj tb) :: (kl, lst kv ek) :: (rol, lst (rv ++ [.ref sa]) (er + 1)) :: (c'.L + 1 + 1, cellO ck) :: (c'.L + 1, cellO (some (Value.ref pl))) :: (g ++ led)) ?_) sub_in1
          show Sub ((rl, lst [] e4) :: (ta, tup us) :: (267, tabObj tb) :: (kl, lst kv ek) :: (rol, lst (rv ++ [.ref sa]) (er + 1)) :: (c'.L + 1 + 1, cellO ck) :: (c'.L + 1, cellO (some (Value.ref pl))) :: (sa, lst sv se) :: (g ++ led)) _
          wtm_at "sub"
        have hrv3 : ListsAre ((sa, lst sv se) :: g) (rv ++ [.ref sa]) ((List.range (D + 1)).map (roundAt ps)) := by
          rw [List.range_succ, List.map_append]
          exact ListsAre.snoc (hrv2.mono fun p hp => .tail _ hp) (.head _) hsv
        have hLT3 : LamTab lamPos lamQual tb (((sa, lst sv se) :: g) ++ led) := hLT.mono fun p hp => .tail _ hp
        generalize (sa, lst sv se) :: g = g1 at hrv3 hLT3 ⊢
        generalize rv ++ [.ref sa] = rv1 at hrv3 ⊢
        generalize er + 1 = er1
        show T c' _ _ _ _ _
        wtm_at "c"
        refine T.for (fun _ => rfl) ?_
        repeat' wtm_at "c"
        refine T.iter_tup (x := ta) (vs := us) G'.hdl (fun p hp => ?_) fun I3 oI3 S3 W3 hS3 => ?_
        · rw [List.mem_singleton.mp hp]; exact .inl (by wtm_at "mem2")
        refine TC.for W3 hS3 (RnJ3 ps ms tr D q l ml x dx d nl kl rol rl ta c'.L pl o ks t7 t8 tf po nds2 us rv1 e4 er1 led) ?_ ?_ ?_ ?_
        · rintro i m₁ l₁ ⟨_, _, _, _, _, _, _, _, _, _, rfl⟩ p hp
          rw [List.mem_singleton.mp hp]; exact .inl (by wtm_at "mem2")
        · refine ⟨kv, ek, tb, g1, ck, al, ?_, hLT3, hrv3, rfl, rfl⟩
          simpa using hkv
        · rintro i v oi m₁ l₁ hi hv ⟨kv, ek, tb, g2, ck, al, hkv, hLT, hrv4, rfl, rfl⟩
          have hir : i < q.length := by omega
          obtain ⟨tv, hat⟩ := ints_at hus hir
          rw [hv] at hat; cases hat
          have hgd : q[i]? = some (q.getD i 0) := by rw [List.getD_eq_getElem?_getD, List.getElem?_eq_getElem hir]; rfl
          generalize q.getD i 0 = k at hgd hv ⊢
          obtain ⟨hkN, hkD⟩ := (hqm k).mp (List.mem_of_getElem? hgd)
          have hkvl := StrsAre.len_eq hkv
          rw [List.length_map, List.length_range] at hkvl
          obtain ⟨tpk, hpk⟩ := range_at hpv hkN
          obtain ⟨RR, hRR⟩ : ∃ RR : Led, ∀ tb kv ck g, ((267, tabObj tb) :: (c'.L + 1 + 1, cellO ck) :: (kl, lst kv ek) :: (c'.L + 1, cellO (some (Value.ref pl))) :: (RR ++ (g ++ led))).Perm ((I3, oi) :: Core x dx d o ks (.ref rl) (.int (po + q.length) t8) (.int po tf) nds2 ((rl, lst [] e4) :: (ta, tup us) :: (267, tabObj tb) :: (kl, lst kv ek) :: (rol, lst rv1 er1) :: (c'.L + 1 + 1, cellO ck) :: (c'.L + 1, cellO (some (Value.ref pl))) :: (g ++ led))) := ⟨_, fun _ _ _ _ => turn_perm⟩
          refine T.perm (hRR tb kv ck g2) ?_
          refine T.asName ?_
          refine T.store_c (by kernel_rfl) (by kernel_rfl) (by with_unfolding_all rfl) (Up.tail Up.head) ?_
          show T c' _ _ _ _ _
          refine T.execs_cons ?_
          refine T.assign_comp (cl := [(Str.ofString "paths", c'.L + 1), (Str.ofString "k", c'.L + 1 + 1)]) (by with_unfolding_all rfl) (by with_unfolding_all rfl) (by kernel_rfl) (by kernel_rfl) (by kernel_rfl) (by with_unfolding_all rfl) (by kernel_rfl) ?_
          repeat' wtm_at "c"
          refine T.itA_list (x := ml) (vs := ws) (n := e2) G'.hdl (fun p hp => ?_) fun I4 oI4 S4 W4 hS4 => ?_
          · rw [List.mem_singleton.mp hp]; exact .inl (by wtm_at "mem2")
          refine TK.loop W4 hS4 G' 0 (fun _ => rfl) (fun c'' j m₁ vs l₁ => ∃ o1 o2 tb new, m₁ = [(Str.ofString ".0", none), (Str.ofString "node", o1), (Str.ofString "mode", o2)] ∧ LamTab lamPos lamQual tb (new ++ (g2 ++ led)) ∧ RulesAre (new ++ (g2 ++ led)) vs ((ownOf (ms.take j) k).map fun md => (pathOf ps k, vN md)) ∧ l₁ = (267, tabObj tb) :: (new ++ ((c'.L + 1 + 1, cellO (some (.int (k : Nat) tv))) :: (kl, lst kv ek) :: (c'.L + 1, cellO (some (Value.ref pl))) :: (RR ++ (g2 ++ led))))) [(Str.ofString ".0", none), (Str.ofString "node", none), (Str.ofString "mode", none)] (lookL_none rfl) ?_ ?_ ?_ ?_
          · rintro c'' j m₁ vs l₁ ⟨_, _, _, _, _, _, _, rfl⟩ p hp
            rw [List.mem_singleton.mp hp]; exact .inl (by wtm_at "mem2")
          · intro c'' _ _ _
            exact ⟨none, none, tb, [], rfl, hLT, RulesAre.nil, rfl⟩
          · rintro c'' j v o acc vs m₁ l₁ hcw2 hA2 G'' hst hj hvj ⟨o1, o2, tb1, new, rfl, hLT1, hR1, rfl⟩
            obtain ⟨⟨nd, md⟩, y, t10, t11, hpj, rfl, hy⟩ := hw.at hvj
            refine T.asTup G''.hdl (vs := [.int (nd : Nat) t10, .int (md : Nat) t11]) (fun p hp => ?_) rfl rfl rfl ?_
            · rw [List.mem_singleton.mp hp]; exact .inl (by wtm_at "mem2")
            refine T.inOrder (T.asName ?_)
            repeat' wtm_at "c"
            refine T.inOrder (T.asName ?_)
            repeat' wtm_at "c"
            refine T.inOrder0 ?_
            refine T.tests_one ?_
            repeat' wtm_at "c"
            have hol : (ownOf (ms.take j) k).length ≤ 64 := by
              have := H.mhi
              unfold ownOf
              rw [List.length_map]
              refine Nat.le_trans (List.length_filter_le ..) ?_
              rw [List.length_take]
              omega
            have hvl := hR1.1
            rw [List.length_map] at hvl
            by_cases hnk : nd = k
            · subst hnk
              rw [show ((nd : Int) == (nd : Int)) = true from beq_self_eq_true _, if_pos rfl]
              repeat' wtm_at "c"
              refine T.global G'' (g_rule _) rfl rfl (by kernel_rfl) (by kernel_rfl) ?_
              refine T.cw G'' (by kernel_rfl) ?_
              repeat' wtm_at "c"
              refine T.itemN (l := pl) (vs := pv) (n := e1) (by wtm_at "mem2") (by omega) hpk rfl ?_
              repeat' wtm_at "c"
              refine T.global G'' (g_verdict _) rfl rfl (by kernel_rfl) (by kernel_rfl) ?_
              refine T.cw G'' (by kernel_rfl) ?_
              repeat' wtm_at "c"
              refine verdict_T G'' fun t12 => ?_
              rw [verd_eq]
              repeat' wtm_at "c"
              refine T.perm (led' := (267, tabObj tb1) :: (I4, o) :: (acc, lst vs vs.length) :: (new ++ ((c'.L + 1 + 1, cellO (some (.int (nd : Nat) tv))) :: (kl, lst kv ek) :: (c'.L + 1, cellO (some (Value.ref pl))) :: (RR ++ (g2 ++ led))))) (by wtm_at "perm") ?_
              refine rule_T G'' (base := new ++ (g2 ++ led)) (fun z hz => ?_) (by have := pathOf_len ps nd; omega) hLT1 fun x2 tb2 new2 hLT2 hR2 => ?_
              · rcases List.mem_append.mp hz with hz | hz
                · exact .tail _ (.tail _ (List.mem_append_left _ hz))
                · exact .tail _ (.tail _ (List.mem_append_right _ (.tail _ (.tail _ (.tail _ (List.mem_append_right _ hz))))))
              refine ⟨by unfold sizeLine; omega, _, rule_perm, _, _, tb2, new2 ++ new, rfl, by rw [List.append_assoc]; exact hLT2, ?_, rfl⟩
              have : ownOf (ms.take (j + 1)) nd = ownOf (ms.take j) nd ++ [md] := by
                unfold ownOf
                rw [take_snoc hpj, List.filter_append]; simp
              rw [this, List.map_append, List.append_assoc]
              exact (hR1.mono fun z hz => List.mem_append_right _ hz).append (RulesAre.one hR2)
            · have hb : ((nd : Int) == (k : Int)) = false := by rw [beq_eq_false_iff_ne]; omega
              rw [hb, if_neg Bool.false_ne_true]
              refine ⟨_, .refl _, _, _, tb1, new, rfl, hLT1, ?_, rfl⟩
              have : ownOf (ms.take (j + 1)) k = ownOf (ms.take j) k := by
                unfold ownOf
                rw [take_snoc hpj, List.filter_append]; simp [hnk]
              rw [this]
              exact hR1
          · rintro c'' la m₁ lv l₁ ⟨_, _, tb1, new, _, hLT1, hR1, rfl⟩
            rw [hw.1, List.take_length] at hR1
            have hlvl := hR1.1
            rw [List.length_map] at hlvl
            have hol : (ownOf ms k).length ≤ 64 := by
              have := H.mhi
              unfold ownOf
              rw [List.length_map]
              refine Nat.le_trans (List.length_filter_le ..) ?_
              omega
            show T c' _ _ _ _ _
            refine T.execs_cons ?_
            refine T.mono (Q := RnQ ps ms k tr l ml x nl kl rol ta c'.L pl t7 tv kv ek RR g2 led) ?_ ?_
            · repeat' wtm_at "c"
              by_cases hk0 : k = 0
              · rw [if_neg (by simp [hk0])]
                repeat' wtm_at "c"
                refine ⟨rfl, la, lv, tb1, (la, lst lv lv.length) :: new, _, rfl, hLT1.mono (fun z hz => .tail _ hz), .head _, ?_, .swap ..⟩
                rw [if_pos hk0, List.append_nil]
                exact hR1.mono fun z hz => .tail _ hz
              · rw [if_pos (by simpa using hk0)]
                have hlt := H.tree.lt k (by omega) hkN
                obtain ⟨tq, hatp⟩ := ints_at hu hkN
                obtain ⟨tpp, hpp⟩ := range_at hpv (show ps.getD k 0 < ps.length by omega)
                obtain ⟨tkp, hkp⟩ := range_at hkv (show ps.getD k 0 < ps.length by omega)
                have hdp := dep_par H.tree hkN hk0
                rw [if_pos (.inl (by omega))] at hkp
                wtm_at "c"
                refine T.assign (by kernel_rfl) ?_
                repeat' wtm_at "c"
                refine T.list (by kernel_rfl) ?_
                repeat' wtm_at "c"
                refine T.global G' (g_rule _) rfl rfl (by kernel_rfl) (by kernel_rfl) ?_
                refine T.cw G' (by kernel_rfl) ?_
                repeat' wtm_at "c"
                refine T.itemN (l := l) (by wtm_at "mem2") (by omega) hatp rfl ?_
                repeat' wtm_at "c"
                refine T.itemN (l := pl) (by wtm_at "mem2") (by omega) hpp rfl ?_
                repeat' wtm_at "c"
                refine T.itemN (l := l) (by wtm_at "mem2") (by omega) hatp rfl ?_
                repeat' wtm_at "c"
                refine T.itemN (l := kl) (by wtm_at "mem2") (by omega) hkp rfl ?_
                repeat' wtm_at "c"
                refine T.perm (led' := (267, tabObj tb1) :: (la, lst lv lv.length) :: (new ++ ((c'.L + 1 + 1, cellO (some (.int (k : Nat) tv))) :: (kl, lst kv ek) :: (c'.L + 1, cellO (some (Value.ref pl))) :: (RR ++ (g2 ++ led))))) (by wtm_at "perm") ?_
                refine rule_T G' (base := new ++ (g2 ++ led)) (fun z hz => ?_) (by have := pathOf_len ps (ps.getD k 0); omega) hLT1 fun x2 tb2 new2 hLT2 hR2 => ?_
                · rcases List.mem_append.mp hz with hz | hz
                  · exact .tail _ (List.mem_append_left _ hz)
                  · exact .tail _ (List.mem_append_right _ (.tail _ (.tail _ (.tail _ (List.mem_append_right _ hz)))))
                repeat' wtm_at "c"
                refine ⟨by show 1 ≤ _; decide, fun b5 => ?_⟩
                refine T.addl (x := la) (y := b5) (vs := lv) (n := lv.length) (ws := [.ref x2]) (k := 0) (by wtm_at "mem2") (.head _) (by show _ + 1 ≤ _; unfold sizeLine; omega) fun lb => ?_
                repeat' wtm_at "c"
                have hin : ∀ z, z ∈ new2 ++ (new ++ (g2 ++ led)) → z ∈ ((lb, lst (lv ++ [.ref x2]) 0) :: (b5, lst [.ref x2] 0) :: (new2 ++ ((la, lst lv lv.length) :: new))) ++ (g2 ++ led) := fun z hz => by
                  refine .tail _ (.tail _ ?_)
                  show z ∈ (new2 ++ ((la, lst lv lv.length) :: new)) ++ (g2 ++ led)
                  rw [List.append_assoc]
                  rcases List.mem_append.mp hz with hz | hz
                  · exact List.mem_append_left _ hz
                  · exact List.mem_append_right _ (.tail _ hz)
                refine ⟨rfl, lb, lv ++ [.ref x2], tb2, _, 0, rfl, hLT2.mono hin, .head _, ?_, rule2_perm⟩
                rw [if_neg hk0]
                exact (hR1.mono fun z hz => hin z (List.mem_append_right _ hz)).append (RulesAre.one (hR2.mono hin))
            · rintro _ m₁ l₁ ⟨rfl, lb, lv, tb1, new, le, rfl, hLT1, hlb, hR1, hpm⟩
              show T c' _ _ _ _ _
              refine T.perm hpm ?_
              refine T.execs_cons ?_
              refine T.assignS (by kernel_rfl) ?_
              refine T.mcall (by kernel_rfl) (by kernel_rfl) ?_
              repeat' wtm_at "c"
              refine T.global G' (g_record _) rfl rfl (by kernel_rfl) (by kernel_rfl) ?_
              refine T.cw G' (by kernel_rfl) ?_
              refine T.scons ?_
              refine T.list (by kernel_rfl) ?_
              repeat' wtm_at "c"
              refine ⟨by show 1 ≤ _; decide, fun ua => ?_⟩
              repeat' wtm_at "c"
              refine record_T G' fun ex edx ek2 => ?_
              refine T.imethod (C := 59) (dx := edx) (f := 56) G' (.head _) (.tail _ (.head _)) (by kernel_rfl) (by kernel_rfl) (by kernel_rfl) (by kernel_rfl) ?_
              refine T.cw G' (by kernel_rfl) ?_
              repeat' wtm_at "c"
              refine T.itemN (l := pl) (by wtm_at "mem2") (by omega) hpk rfl ?_
              repeat' wtm_at "c"
              refine allowance_T G' (.head _) (.tail _ (.head _)) (rl := lb) (vs := lv) (e := le) (.tail _ (.tail _ (.tail _ (.tail _ (List.mem_append_left _ hlb))))) (hR1.mono fun z hz => ?_) (fun r hr => ?_) fun v hv => ?_
              · refine .tail _ (.tail _ (.tail _ (.tail _ ?_)))
                rcases List.mem_append.mp hz with hz | hz
                · exact List.mem_append_left _ hz
                · exact List.mem_append_right _ (.tail _ (.tail _ (.tail _ (List.mem_append_right _ hz))))
              · rcases List.mem_append.mp hr with hr | hr
                · obtain ⟨md, _, rfl⟩ := List.mem_map.mp hr
                  exact vN_len md
                · by_cases hk0 : k = 0
                  · rw [if_pos hk0] at hr; cases hr
                  · rw [if_neg hk0] at hr
                    rw [List.mem_singleton.mp hr]
                    exact climbed_len ..
              rw [allow_own H hkN (fun _ => rfl)] at hv
              obtain ⟨tz, rfl⟩ := hv
              repeat' wtm_at "c"
              refine T.setL (l := kl) (vs := kv) (n := ek) (k := k) (by wtm_at "up2") (by omega) (by omega) ?_
              repeat' wtm_at "c"
              refine ⟨_, (hRR tb1 (kv.set k (.str (climbed ps ms k) tz)) (some (.int (k : Nat) tv)) ([(ex, instObj 59 edx), (edx, entO ek2 (.ref ua) (.ref lb) .none .none), (ua, _)] ++ new ++ g2)).symm.trans back_perm, _, ek, tb1, _, _, _, ?_, ?_, ?_, rfl, rfl⟩
              · have := strs_set (y := climbed ps ms k) (t := tz) k hkv
                rw [map_set] at this
                have h2 : ((List.range ps.length).map fun k' => if dep ps k' < D ∨ k' ∈ q.take (i + 1) then climbed ps ms k' else Str.ofString "lost") = (List.range ps.length).map fun i_1 => if i_1 = k then climbed ps ms k else if dep ps i_1 < D ∨ i_1 ∈ q.take i then climbed ps ms i_1 else Str.ofString "lost" := List.map_congr_left fun k' _ => by
                  have z0 : k' ∈ q.take (i + 1) ↔ k' ∈ q.take i ∨ k' = k := by rw [take_snoc hgd, List.mem_append, List.mem_singleton]
                  by_cases z : k' = k
                  · subst z; rw [if_pos rfl, if_pos (.inr (z0.mpr (.inr rfl)))]
                  · rw [if_neg z]
                    by_cases z2 : dep ps k' < D ∨ k' ∈ q.take i
                    · rw [if_pos z2, if_pos (by rcases z2 with z2 | z2; exact .inl z2; exact .inr (z0.mpr (.inl z2)))]
                    · rw [if_neg z2, if_neg (by rintro (z3 | z3); exact z2 (.inl z3); rcases z0.mp z3 with z3 | z3; exact z2 (.inr z3); exact z z3)]
                rw [h2]; exact this
              · refine hLT1.mono fun z hz => ?_
                rw [List.append_assoc]
                rw [List.append_assoc]
                refine List.mem_append_right _ ?_
                exact hz
              · refine hrv4.mono fun z hz => ?_
                exact List.mem_append_right _ hz
        · rintro m₁ l₁ ⟨kv, ek, tb, g2, ck, al, hkv, hLT, hrv4, rfl, rfl⟩
          rw [husl, List.take_length] at hkv
          obtain ⟨hd1, hd2', hd3⟩ := done_law (tr := tr) H.tree hq
          repeat' wtm_at "c"
          refine T.mcallStar G' (by kernel_rfl) (by kernel_rfl) ?_
          repeat' wtm_at "c"
          refine ⟨x, 186, dx, 169, [ent1 (ks 0) "_node2info" (.ref d), ent1 (ks 1) "_ready_nodes" (.ref rl), ent1 (ks 2) "_npassedout" (.int (po + q.length) t8), ent1 (ks 3) "_nfinished" (.int po tf)], 4, rfl, by wtm_at "mem", by wtm_at "mem", by kernel_rfl, by kernel_rfl, by kernel_rfl, by kernel_rfl, by kernel_rfl, by kernel_rfl, by kernel_rfl, by kernel_rfl, by kernel_rfl, fun qm => ?_⟩
          repeat' wtm_at "c"
          refine ⟨ta, us, rfl, by wtm_at "mem2", .head _, by unfold sizeLine; omega, ?_⟩
          have hscs : (q.map fun r => (scOf ps tr r).length).sum ≤ q.length * 10 := sum_lid fun r => by have := scOf_len ps tr r; omega
          refine TD.part (l' := Core x dx d o ks (.ref rl) (.int (po + q.length) t8) (.int po tf) nds2 ((rl, lst [] e4) :: (267, tabObj tb) :: (kl, lst kv ek) :: (rol, lst rv1 er1) :: (c'.L + 1 + 1, cellO ck) :: (c'.L + 1, cellO (some (Value.ref pl))) :: (((ta, tup us) :: g2) ++ led))) ?_ ?_
          · refine Sub.trans (sub_mid ?_) (Sub.cons (.refl _))
            show Sub ((rl, lst [] e4) :: (267, tabObj tb) :: (kl, lst kv ek) :: (rol, lst rv1 er1) :: (c'.L + 1 + 1, cellO ck) :: (c'.L + 1, cellO (some (Value.ref pl))) :: (ta, tup us) :: (g2 ++ led)) _
            wtm_at "sub"
          refine done_TD (q := []) (us := []) (rs := q) G' lo S2 hd2 hus .nil (fun r hr => (hdom r).mpr ((hqm r).mp hr).1) (fun r hr s hs => (hdom s).mpr (scOf_mem.mp hs).1) hd1 (by simp; omega) fun nds3 us3 e5 t9 S3' hd3' hus3 => ?_
          repeat wtm_at "un"
          show T c' _ _ _ _ _
          repeat' wtm_at "c"
          refine ⟨20 - (D + 1), by omega, D + 1, _, kv, ek, rv1, er1, us3, e5, nds3, po + q.length, t8, t9, tb, (ta, tup us) :: g2, ck, _, _, rfl, ?_, hd2', hus3, S3'.ext (fun k hk => (hd3 k ((hdom k).mp hk)).symm), hd3', ?_, hrv4.mono (fun p hp => .tail _ hp), hLT.mono (fun p hp => .tail _ hp), rfl, rfl⟩
          · intro j hj
            rcases Nat.lt_or_ge j D with z | z
            · exact hrn j z
            · rw [show j = D by omega]
              intro z2
              rw [z2] at hql
              exact hqne (List.eq_nil_of_length_eq_zero hql)
          · have : ((List.range ps.length).map fun k => if dep ps k < D + 1 then climbed ps ms k else Str.ofString "lost") = (List.range ps.length).map fun k => if dep ps k < D ∨ k ∈ q then climbed ps ms k else Str.ofString "lost" := List.map_congr_left fun k hk => by
              have hk := List.mem_range.mp hk
              have := hqm k
              by_cases z : dep ps k < D ∨ k ∈ q
              · rw [if_pos z, if_pos (by rcases z with z | z; omega; have := this.mp z; omega)]
              · rw [if_neg z, if_neg (fun z2 => z (by rcases Nat.lt_or_ge (dep ps k) D with z3 | z3; exact .inl z3; exact .inr (this.mpr ⟨hk, by omega⟩)))]
            rw [this]; exact hkv
end
-- F21
theorem g_no_filter (w : World) : nsIn (kk.heap_1 w.params) mainGlobals (Str.ofString "filter") = some none := by kernel_rfl
theorem b_filter : bootBuiltins (Str.ofString "filter") = some (.type "filter") := by boot_by_name
abbrev StrS (w : World) (o : Obj) (S : Str → Bool) (n : Nat) : Prop := o.SetObjOf (strKind pw w) S n
section
variable {c : Cx} {m : Loc} {led : Led} {X : Value → Loc → Led → Prop} {Q : Value → Loc → Led → Prop} {env : Env}
theorem Rep.more {hp h' : Heap} {o : Obj} (R : Rep c m led hp) (hk : ∀ b o, hp.get? b = some o → h'.get? b = some o) (ho : h'.get? hp.objs.size = some o) : Rep c m ((hp.objs.size, o) :: led) h' := by
  refine (R.all hk).add ho (fun q => ?_) (Nat.ne_of_gt R.fr.ns.lt) (Heap.get?_none_of_le (Nat.le_trans R.fr.above (Nat.le_of_lt R.fr.ns.lt))) (fun q => ?_)
  · obtain ⟨p, hp2, e⟩ := List.mem_map.mp q
    have := Heap.lt_size (R.news p hp2).1
    rw [e] at this; exact Nat.lt_irrefl _ this
  · obtain ⟨p, hp2, e⟩ := List.mem_map.mp q
    obtain ⟨⟨sl, e2⟩, _⟩ := R.outs p hp2
    have := Heap.lt_size e2
    rw [e] at this; exact Nat.lt_irrefl _ this
theorem T.setStrs {l : Addr} {vs : List Value} {e : Nat} {ys : List Str} (hh : c.A.handled = none) (hm : (l, lst vs e) ∈ led) (hs : StrsAre vs ys) (hn : vs.length < 100)
    (h : ∀ a o n, n ≤ vs.length → StrS c.w o (fun x => decide (x ∈ ys)) n → Q (.ref a) m ((a, o) :: led)) : T c m led (call (.type "set") [.ref l]) Q X := .mk fun hp tk R => by
  refine call_set_strs (s := c.s hp tk) hh (R.isList hm) (by simpa using hs) (by unfold scanBound; simp; omega) fun h' tk' n hn' hS hk => ?_
  obtain ⟨o, ho, hso⟩ := hS.objOf
  exact ⟨m, _, h', tk', rfl, R.more (fun b o e => hk b o (Heap.lt_size e) e) ho, h _ o n (by simpa using hn') hso⟩
theorem T.scget {a : Addr} {o : Obj} {S : Str → Bool} {n : Nat} {ex : Bool} (hm : (a, o) ∈ led) (hs : StrS c.w o S n) (h : ∀ q, Q (.ref q) m ((q, bcO a) :: led)) : T c m led (getAttr (.ref a) "__contains__" ex) Q X := .mk fun hp tk R => by
  obtain ⟨⟨hc1, hc2, hc3⟩, es, ep, tb, hd, _⟩ := hs
  obtain ⟨cls, dict, data, slots⟩ := o
  dsimp only at hc1 hc2 hc3 hd
  subst hc1 hc2 hc3 hd
  exact sc_get (R.get hm) (post_ok (tk := tk + 1) (R.push (bcO a) rfl) (h _))
theorem T.filter {q l : Addr} {vs : List Value} {e : Nat} (hm : (l, lst vs e) ∈ led) (h : ∀ f it, Q (.ref f) m ((f, flO q it) :: (it, liO l 0) :: led)) : T c m led (call (.type "filter") [.ref q, .ref l]) Q X := .mk fun hp tk R =>
  call_filter (s := c.s hp tk) (R.isList hm) (post_ok (tk := tk) ((R.push (liO l 0) rfl).push (flO q hp.objs.size) rfl) (h _ _))
theorem T.listF {f q a it l : Addr} {o : Obj} {S : Str → Bool} {n e : Nat} {y0 y1 y2 : Str} {t0 t1 t2 : Tok} {led' : Led} (hh : c.A.handled = none) (hp : ((it, liO l 0) :: led').Perm led) (hf : (f, flO q it) ∈ led') (hq : (q, bcO a) ∈ led') (ha : (a, o) ∈ led') (hS : StrS c.w o S n) (hn : n < scanBound) (hl : (l, lst [.str y0 t0, .str y1 t1, .str y2 t2] e) ∈ led') (h0 : S y0 = true) (h1 : S y1 = true) (h2 : S y2 = false)
    (h : ∀ z e', Q (.ref z) m ((z, lst [.str y0 t0, .str y1 t1] e') :: led')) : T c m led (call (.type "list") [.ref f]) Q X := .mk fun hp' tk R => by
  have R1 := R.perm hp
  have ne : ∀ {p : Addr × Obj}, p ∈ led' → p.1 ≠ it := fun {p} hp2 x => by
    have nd := R1.nd
    rw [List.map_cons, List.nodup_cons] at nd
    exact nd.1 (List.mem_map.mpr ⟨p, hp2, x⟩)
  have g : ∀ {b : Addr} {ob : Obj}, (b, ob) ∈ led' → hp'.get? b = some ob := fun hb => R1.get (.tail _ hb)
  have hit := R1.get (.head _)
  have W := Walks.filter3 (prog := pw) (w := c.w) (A := c.A.in1.in1) (n := n) (e := e) (t0 := t0) (t1 := t1) (t2 := t2) (by simp [hh]) h0 h1 h2 (ne hf) (ne hq) (ne ha) (ne hl)
  refine call_list_walk (s := c.s hp' tk) W (by decide) (g hf) ⟨by decide, g hf, g hq, hS.setOf (g ha) hn, hit, g hl⟩ (fun b hb => ?_) fun h' tk' acc' c' hk hz hacc => ?_
  · simp at hb
    rcases hb with rfl | rfl | rfl | rfl | rfl
    · exact Heap.lt_size (g hf)
    · exact Heap.lt_size (g hq)
    · exact Heap.lt_size (g ha)
    · exact Heap.lt_size hit
    · exact Heap.lt_size (g hl)
  have R2 : Rep c m led' h' := R1.tail fun b o hb e => hk b o (by simpa using hb) e
  have hacc' : acc'.toList = [.str y0 t0, .str y1 t1] := by
    refine List.ext_getElem? fun i => ?_
    rw [Array.getElem?_toList]
    cases hv : acc'[i]? with
    | some v => exact (hacc.2 i v hv).symm
    | none =>
      have : 2 ≤ i := by
        have := Array.getElem?_eq_none_iff.mp hv
        have h2 := hacc.1
        omega
      exact (List.getElem?_eq_none (by simpa using this)).symm
  have hz' : h'.get? hp'.objs.size = some (lst [.str y0 t0, .str y1 t1] c') := by
    rw [← hacc']
    simpa using hz
  refine ⟨m, _, h', tk', rfl, R2.add hz' (fun q => ?_) (Nat.ne_of_gt R.fr.ns.lt) (Heap.get?_none_of_le (Nat.le_trans R.fr.above (Nat.le_of_lt R.fr.ns.lt))) (fun q => ?_), h _ c'⟩
  · obtain ⟨p, hp2, e⟩ := List.mem_map.mp q
    have := Heap.lt_size (R1.news p (.tail _ hp2)).1
    rw [e] at this; exact Nat.lt_irrefl _ this
  · obtain ⟨p, hp2, e⟩ := List.mem_map.mp q
    obtain ⟨⟨sl, e2⟩, _⟩ := R.outs p hp2
    have := Heap.lt_size e2
    rw [e] at this; exact Nat.lt_irrefl _ this
set_option maxHeartbeats 400000 in
theorem merge_T {n : Nat} (G : Gd c (n + 3)) {x1 d1 x2 d2 u1 u2 r1 r2 : Addr} {k1 k2 : Nat → Int × Tok} {dl1 dl2 : Value} {rv1 rv2 : List Value} {e1 e2 e3 e4 : Nat} {t0 t1 t2 t3 t4 t5 : Tok}
    (hx1 : (x1, instObj 59 d1) ∈ led) (hd1 : (d1, entO k1 (.ref u1) (.ref r1) dl1 .none) ∈ led) (hx2 : (x2, instObj 59 d2) ∈ led) (hd2 : (d2, entO k2 (.ref u2) (.ref r2) dl2 .none) ∈ led)
    (hu1 : (u1, lst [.str "fig" t0, .str "plum" t1, .str "Fig" t2] e1) ∈ led) (hu2 : (u2, lst [.str "plum" t3, .str "fig" t4, .str "kiwi" t5] e2) ∈ led) (hr1 : (r1, lst rv1 e3) ∈ led) (hr2 : (r2, lst rv2 e4) ∈ led) (hsz : rv1.length + rv2.length ≤ sizeLine) (hpl : plainIs dl2 .none = true) (hi1 : handedIn dl1 = true) (hi2 : handedIn dl2 = true)
    (h : ∀ x dx k uz rz ez, Q (.ref x) m ((x, instObj 59 dx) :: (dx, entO k (.ref uz) (.ref rz) (if (dl2 == .none) = true then dl1 else dl2) .none) :: (uz, lst [.str "fig" t0, .str "plum" t1] ez) :: (rz, lst (rv1 ++ rv2) 0) :: led)) : T c m led (call (.ref 70) [.ref x1, .ref x2]) Q X := by
  refine T.def [(Str.ofString "e1", some (.ref x1)), (Str.ofString "e2", some (.ref x2)), (Str.ofString "entry", none)] G rfl (by kernel_rfl) (by kernel_rfl) (by kernel_rfl) rfl ?_
  intro c' hw G'
  repeat' wtm_at "c"
  refine T.global G' (g_Entry _) rfl rfl (by kernel_rfl) (by kernel_rfl) ?_
  refine T.cw G' (by kernel_rfl) ?_
  repeat' wtm_at "c"
  refine entry_T G' fun x dx k ul rl => ?_
  repeat' wtm_at "c"
  refine T.assignA (by kernel_rfl) ?_
  repeat' wtm_at "c"
  refine T.bltn G' (g_no_list _) b_list (by decide) rfl rfl rfl (by kernel_rfl) (by kernel_rfl) ?_
  refine T.cwt ?_
  repeat' wtm_at "c"
  refine T.bltn G' (g_no_filter _) b_filter (by decide) rfl rfl rfl (by kernel_rfl) (by kernel_rfl) ?_
  refine T.cwt ?_
  repeat' wtm_at "c"
  refine T.attr (by with_unfolding_all rfl) ?_
  repeat' wtm_at "c"
  refine T.bltn G' (g_no_set _) b_set (by decide) rfl rfl rfl (by kernel_rfl) (by kernel_rfl) ?_
  refine T.cwt ?_
  repeat' wtm_at "c"
  refine T.attr (by with_unfolding_all rfl) ?_
  repeat' wtm_at "c"
  refine T.getA (x := x2) (dx := d2) (v := .ref u2) (od := entO k2 (.ref u2) (.ref r2) dl2 .none) G' (by wtm_at "mem") (by wtm_at "mem") (ent_ga _) (by kernel_rfl) rfl ?_
  repeat' wtm_at "c"
  refine T.setStrs (l := u2) (ys := [Str.ofString "plum", Str.ofString "fig", Str.ofString "kiwi"]) G'.hdl (by wtm_at "mem") (.cons _ _ (.cons _ _ (.cons _ _ .nil))) (by show 3 < 100; decide) fun sa so sn hsn hso => ?_
  refine T.scget (.head _) hso fun bq => ?_
  refine T.scons ?_
  refine T.attr (by with_unfolding_all rfl) ?_
  repeat' wtm_at "c"
  refine T.getA (x := x1) (dx := d1) (v := .ref u1) (od := entO k1 (.ref u1) (.ref r1) dl1 .none) G' (by wtm_at "mem") (by wtm_at "mem") (ent_ga _) (by kernel_rfl) rfl ?_
  repeat' wtm_at "c"
  refine T.filter (l := u1) (by wtm_at "mem") fun fa it => ?_
  repeat' wtm_at "c"
  refine T.listF (f := fa) (q := bq) (a := sa) (it := it) (l := u1) (led' := (fa, flO bq it) :: (bq, bcO sa) :: (sa, so) :: (x, instObj 59 dx) :: (dx, entO k (.ref ul) (.ref rl) .none .none) :: (ul, lst [] 0) :: (rl, lst [] 0) :: led) G'.hdl (.swap ..) (.head _) (.tail _ (.head _)) (.tail _ (.tail _ (.head _))) hso (by show sn < 4096; simp at hsn; omega) (by wtm_at "mem") (by decide) (by decide) (by decide) fun uz ez => ?_
  repeat' wtm_at "c"
  refine T.setA (fun hs tk => [ent1 (k 0) "useragents" (.ref uz), ent1 (k 1) "rulelines" (.ref rl), ent1 (k 2) "delay" .none, ent1 (k 3) "req_rate" .none]) 4 G' (by wtm_at "mem") (ent_set _) (ent_over _) (by kernel_rfl) (ent_dict _) (by kernel_rfl) (fun _ _ => by kernel_rfl) (fun _ _ => by show 4 ≤ 1000; decide) (fun tk => by wtm_at "up") fun _ => ?_
  repeat' wtm_at "c"
  refine T.assignA (by kernel_rfl) ?_
  repeat' wtm_at "c"
  refine T.attr (by with_unfolding_all rfl) ?_
  repeat' wtm_at "c"
  refine T.getA (x := x1) (dx := d1) (v := .ref r1) (od := entO k1 (.ref u1) (.ref r1) dl1 .none) G' (by wtm_at "mem") (by wtm_at "mem") (ent_ga _) (by kernel_rfl) rfl ?_
  repeat' wtm_at "c"
  refine T.attr (by with_unfolding_all rfl) ?_
  repeat' wtm_at "c"
  refine T.getA (x := x2) (dx := d2) (v := .ref r2) (od := entO k2 (.ref u2) (.ref r2) dl2 .none) G' (by wtm_at "mem") (by wtm_at "mem") (ent_ga _) (by kernel_rfl) rfl ?_
  repeat' wtm_at "c"
  refine T.addl (x := r1) (y := r2) (by wtm_at "mem") (by wtm_at "mem") hsz fun rz => ?_
  repeat' wtm_at "c"
  refine T.setA (fun hs tk => [ent1 (k 0) "useragents" (.ref uz), ent1 (k 1) "rulelines" (.ref rz), ent1 (k 2) "delay" .none, ent1 (k 3) "req_rate" .none]) 4 G' (by wtm_at "mem") (ent_set _) (ent_over _) (by kernel_rfl) (ent_dict _) (by kernel_rfl) (fun _ _ => by kernel_rfl) (fun _ _ => by show 4 ≤ 1000; decide) (fun tk => by wtm_at "up") fun _ => ?_
  repeat' wtm_at "c"
  refine T.assignA (by kernel_rfl) ?_
  repeat' wtm_at "c"
  refine T.attr (by with_unfolding_all rfl) ?_
  repeat' wtm_at "c"
  refine T.getA (x := x2) (dx := d2) (v := dl2) (od := entO k2 (.ref u2) (.ref r2) dl2 .none) G' (by wtm_at "mem") (by wtm_at "mem") (ent_ga _) (by kernel_rfl) hi2 ?_
  repeat' wtm_at "c"
  refine T.isNone hpl ?_
  repeat' wtm_at "c"
  by_cases hb : (dl2 == Value.none) = true
  · simp only [if_pos hb] at h ⊢
    refine T.attr (by with_unfolding_all rfl) ?_
    repeat' wtm_at "c"
    refine T.getA (x := x1) (dx := d1) (v := dl1) (od := entO k1 (.ref u1) (.ref r1) dl1 .none) G' (by wtm_at "mem") (by wtm_at "mem") (ent_ga _) (by kernel_rfl) hi1 ?_
    repeat' wtm_at "c"
    refine T.setA (fun hs tk => [ent1 (k 0) "useragents" (.ref uz), ent1 (k 1) "rulelines" (.ref rz), ent1 (k 2) "delay" dl1, ent1 (k 3) "req_rate" .none]) 4 G' (by wtm_at "mem") (ent_set _) (ent_over _) (by kernel_rfl) (ent_dict _) (by kernel_rfl) (fun _ _ => by kernel_rfl) (fun _ _ => by show 4 ≤ 1000; decide) (fun tk => by wtm_at "up") fun _ => ?_
    repeat' wtm_at "c"
    refine T.assignA (by kernel_rfl) ?_
    repeat' wtm_at "c"
    refine T.attr (by with_unfolding_all rfl) ?_
    repeat' wtm_at "c"
    refine T.getA (x := x2) (dx := d2) (v := .none) (od := entO k2 (.ref u2) (.ref r2) dl2 .none) G' (by wtm_at "mem") (by wtm_at "mem") (ent_ga _) (by kernel_rfl) rfl ?_
    repeat' wtm_at "c"
    refine T.isNone rfl ?_
    repeat' wtm_at "c"
    rw [if_pos (by decide)]
    refine T.attr (by with_unfolding_all rfl) ?_
    repeat' wtm_at "c"
    refine T.getA (x := x1) (dx := d1) (v := .none) (od := entO k1 (.ref u1) (.ref r1) dl1 .none) G' (by wtm_at "mem") (by wtm_at "mem") (ent_ga _) (by kernel_rfl) rfl ?_
    repeat' wtm_at "c"
    refine T.setA (fun hs tk => [ent1 (k 0) "useragents" (.ref uz), ent1 (k 1) "rulelines" (.ref rz), ent1 (k 2) "delay" dl1, ent1 (k 3) "req_rate" .none]) 4 G' (by wtm_at "mem") (ent_set _) (ent_over _) (by kernel_rfl) (ent_dict _) (by kernel_rfl) (fun _ _ => by kernel_rfl) (fun _ _ => by show 4 ≤ 1000; decide) (fun tk => by wtm_at "up") fun _ => ?_
    repeat' wtm_at "c"
    refine ⟨_, ?_, h x dx k uz rz ez⟩
    show Sub ((x, instObj 59 dx) :: (dx, dictOf [ent1 (k 0) "useragents" (.ref uz), ent1 (k 1) "rulelines" (.ref rz), ent1 (k 2) "delay" dl1, ent1 (k 3) "req_rate" .none] 4) :: (uz, lst [.str "fig" t0, .str "plum" t1] ez) :: (rz, lst (rv1 ++ rv2) 0) :: led) _
    wtm_at "sub"
  · simp only [if_neg hb] at h ⊢
    refine T.attr (by with_unfolding_all rfl) ?_
    repeat' wtm_at "c"
    refine T.getA (x := x2) (dx := d2) (v := dl2) (od := entO k2 (.ref u2) (.ref r2) dl2 .none) G' (by wtm_at "mem") (by wtm_at "mem") (ent_ga _) (by kernel_rfl) hi2 ?_
    repeat' wtm_at "c"
    refine T.setA (fun hs tk => [ent1 (k 0) "useragents" (.ref uz), ent1 (k 1) "rulelines" (.ref rz), ent1 (k 2) "delay" dl2, ent1 (k 3) "req_rate" .none]) 4 G' (by wtm_at "mem") (ent_set _) (ent_over _) (by kernel_rfl) (ent_dict _) (by kernel_rfl) (fun _ _ => by kernel_rfl) (fun _ _ => by show 4 ≤ 1000; decide) (fun tk => by wtm_at "up") fun _ => ?_
    repeat' wtm_at "c"
    refine T.assignA (by kernel_rfl) ?_
    repeat' wtm_at "c"
    refine T.attr (by with_unfolding_all rfl) ?_
    repeat' wtm_at "c"
    refine T.getA (x := x2) (dx := d2) (v := .none) (od := entO k2 (.ref u2) (.ref r2) dl2 .none) G' (by wtm_at "mem") (by wtm_at "mem") (ent_ga _) (by kernel_rfl) rfl ?_
    repeat' wtm_at "c"
    refine T.isNone rfl ?_
    repeat' wtm_at "c"
    rw [if_pos (by decide)]
    refine T.attr (by with_unfolding_all rfl) ?_
    repeat' wtm_at "c"
    refine T.getA (x := x1) (dx := d1) (v := .none) (od := entO k1 (.ref u1) (.ref r1) dl1 .none) G' (by wtm_at "mem") (by wtm_at "mem") (ent_ga _) (by kernel_rfl) rfl ?_
    repeat' wtm_at "c"
    refine T.setA (fun hs tk => [ent1 (k 0) "useragents" (.ref uz), ent1 (k 1) "rulelines" (.ref rz), ent1 (k 2) "delay" dl2, ent1 (k 3) "req_rate" .none]) 4 G' (by wtm_at "mem") (ent_set _) (ent_over _) (by kernel_rfl) (ent_dict _) (by kernel_rfl) (fun _ _ => by kernel_rfl) (fun _ _ => by show 4 ≤ 1000; decide) (fun tk => by wtm_at "up") fun _ => ?_
    repeat' wtm_at "c"
    refine ⟨_, ?_, h x dx k uz rz ez⟩
    show Sub ((x, instObj 59 dx) :: (dx, dictOf [ent1 (k 0) "useragents" (.ref uz), ent1 (k 1) "rulelines" (.ref rz), ent1 (k 2) "delay" dl2, ent1 (k 3) "req_rate" .none] 4) :: (uz, lst [.str "fig" t0, .str "plum" t1] ez) :: (rz, lst (rv1 ++ rv2) 0) :: led) _
    wtm_at "sub"
end
-- TO
section
variable {c : Cx} {m : Loc} {led : Led} {X : Value → Loc → Led → Prop} {Q : Value → Loc → Led → Prop} {env : Env}
/-- an item of a tuple -/
theorem T.titem {value slice : Expr} {l : Addr} {vs : List Value} {k : Int} {u : Tok} {v : Value} (hm : (l, tup vs) ∈ led) (h0 : 0 ≤ k) (hf : k < 2 ^ 60) (hv : vs[k.toNat]? = some v)
    (hs : subscripted slice false (.ref l) (.int k u) = operate [.ref l, .int k u] (getItem (.ref l) (.int k u))) (h : Q v m led) : T c m led (subscriptTail value slice (.ref l) (.int k u)) Q X := .mk fun hp tk R =>
  item_tupleT (s := c.s hp tk) ⟨_, R.get hm, rfl, 0, rfl⟩ (by omega) (by omega) (seqIndex_of h0 (by have := (List.getElem?_eq_some_iff.mp hv).1; omega)) (by simpa using hv) (post_ok R h) hs
/-- a slice of a list of the ground -/
theorem T.sub_slice0 {value slice : Expr} {l sl : Addr} {vs : List Value} {vl vu vt : Value} {lo hi st : Option Int} (ops : List Value) (hl : c.h0.IsList l vs.toArray) (hsl : (sl, slcO vl vu vt) ∈ led) (pl : IsPart vl lo) (pu : IsPart vu hi) (pt : IsPart vt st) (h0 : st ≠ some 0) (hsz : vs.length ≤ sizeLine)
    (hs : subscripted slice false (.ref l) (.ref sl) = operate ops (getItem (.ref l) (.ref sl))) (h : ∀ a, Q (.ref a) m ((a, lst (slicePick vs.toArray lo hi st).toList 0) :: led)) : T c m led (subscriptTail value slice (.ref l) (.ref sl)) Q X := .mk fun hp tk R => by
  have hl' : hp.IsList l vs.toArray := let ⟨o, e, r⟩ := hl; ⟨o, R.fr.keep _ _ e, r⟩
  exact tail_any (s := c.s hp tk) hl'.typeIs slot_list_getitem.lookup (wpAny_getItem_list_slice hl' ⟨_, R.get hsl, rfl, rfl⟩ pl pu pt h0 (post_ok (R.push _ rfl) (h _)) (by simpa using hsz)) hs
theorem all_true {n : Nat} : (List.range n).all (fun _ => true) = true := by simp
theorem T.neLists {x y : Addr} {vs ws : List Value} {e e' : Nat} {n : Nat} (G : Gd c n) (hx : (x, lst vs e) ∈ led) (hy : (y, lst ws e') ∈ led) (hl : vs.length = ws.length)
    (he : ∀ (j : Nat) v w, vs[j]? = some v → ws[j]? = some w → ∀ hp tk, Rep c m led hp → SeqAt.EqAt c.A.in1 (c.s hp tk) v w true) (h : Q (.bool false) m led) : T c m led (compareOp .NotEq (.ref x) (.ref y)) Q X := .mk fun hp tk R => by
  have hu : c.A.units < cLine := Nat.lt_of_le_of_lt (Nat.le_add_right _ _) G.units
  refine EqBoolInt.of_rcne (s := c.s hp tk) (SeqAt.RcNeAt.lists (e := fun _ => true) (R.isList hx) (R.isList hy) (by simpa using hl) hu (fun j h1 h2 => ?_)) ?_
  · exact he j _ _ (by simp at h1; simp [h1]) (by simp at h2; simp [h2]) hp tk R
  · rw [all_true]; exact post_ok R h
theorem eqAt_strs {vs ws : List Value} {ys : List Str} (hv : StrsAre vs ys) (hw : StrsAre ws ys) {j : Nat} {v w : Value} (h1 : vs[j]? = some v) (h2 : ws[j]? = some w) (A : Around) (s : Shared) : SeqAt.EqAt A s v w true := by
  have hj : j < ys.length := by rw [← hv.len_eq]; exact (List.getElem?_eq_some_iff.mp h1).1
  obtain ⟨t, e⟩ := hv.at (List.getElem?_eq_getElem hj)
  obtain ⟨u, e'⟩ := hw.at (List.getElem?_eq_getElem hj)
  rw [h1] at e; rw [h2] at e'
  cases e; cases e'
  have := SeqAt.EqAt.str_str (A := A) (s := s) ys[j] t ys[j] u
  rw [show (ys[j] == ys[j]) = true from beq_self_eq_true _] at this
  exact this
theorem T.neStrs {x y : Addr} {vs ws : List Value} {ys : List Str} {e e' : Nat} {n : Nat} (G : Gd c n) (hx : (x, lst vs e) ∈ led) (hy : (y, lst ws e') ∈ led) (hv : StrsAre vs ys) (hw : StrsAre ws ys)
    (h : Q (.bool false) m led) : T c m led (compareOp .NotEq (.ref x) (.ref y)) Q X :=
  T.neLists G hx hy (by rw [hv.len_eq, hw.len_eq]) (fun j v w h1 h2 hp tk _ => eqAt_strs hv hw h1 h2 _ _) h
theorem T.neSame {x y : Addr} {vs : List Value} {e e' : Nat} {n : Nat} (G : Gd c n) (hx : (x, lst vs e) ∈ led) (hy : (y, lst vs e') ∈ led)
    (h : Q (.bool false) m led) : T c m led (compareOp .NotEq (.ref x) (.ref y)) Q X :=
  T.neLists G hx hy rfl (fun j v w h1 h2 hp tk _ => by rw [h1] at h2; cases h2; exact SeqAt.EqAt.same v) h
theorem eqAt_lists {A : Around} {hp : Heap} {tk : Nat} {x y : Addr} {vs ws : List Value} {e e' : Nat} (R : Rep c m led hp) (hu : A.units < cLine) (hx : (x, lst vs e) ∈ led) (hy : (y, lst ws e') ∈ led) (hl : vs.length = ws.length)
    (he : ∀ (j : Nat) v w, vs[j]? = some v → ws[j]? = some w → SeqAt.EqAt A.in1 (c.s hp tk) v w true) : SeqAt.EqAt A (c.s hp tk) (.ref x) (.ref y) true := by
  by_cases hxy : x = y
  · subst hxy; exact SeqAt.EqAt.same _
  · refine SeqAt.EqAt.of_refs hxy ?_
    have := SeqAt.RcAt.lists (A := A) (s := c.s hp tk) (e := fun _ => true) (R.isList hx) (R.isList hy) (by simpa using hl) hu (fun j h1 h2 => he j _ _ (by simp at h1; simp [h1]) (by simp at h2; simp [h2]))
    rw [all_true] at this
    exact this
theorem eqAt_ints {vs ws : List Value} {ys : List Nat} (hv : IntsAre vs (nat2 ys)) (hw : IntsAre ws (nat2 ys)) {j : Nat} {v w : Value} (h1 : vs[j]? = some v) (h2 : ws[j]? = some w) (A : Around) (s : Shared) : SeqAt.EqAt A s v w true := by
  have hj : j < ys.length := by have := ints_len hv; rw [← this]; exact (List.getElem?_eq_some_iff.mp h1).1
  obtain ⟨t, e⟩ := ints_at hv hj
  obtain ⟨u, e'⟩ := ints_at hw hj
  rw [h1] at e; rw [h2] at e'
  cases e; cases e'
  have := SeqAt.EqAt.int_int (A := A) (s := s) ((ys.getD j 0 : Nat) : Int) t ((ys.getD j 0 : Nat) : Int) u
  rw [show (((ys.getD j 0 : Nat) : Int) == ((ys.getD j 0 : Nat) : Int)) = true from beq_self_eq_true _] at this
  exact this
theorem ListsAre.at {l : Led} {vs : List Value} {rs : List (List Nat)} (h : ListsAre l vs rs) {i : Nat} {v : Value} (hv : vs[i]? = some v) : ∃ (r : List Nat) (x : Addr) (us : List Value) (e : Nat), rs[i]? = some r ∧ v = .ref x ∧ (x, lst us e) ∈ l ∧ IntsAre us (nat2 r) := by
  have hi : i < rs.length := by rw [← h.1]; exact (List.getElem?_eq_some_iff.mp hv).1
  obtain ⟨x, us, e, a, b, d⟩ := h.2 i _ (List.getElem?_eq_getElem hi)
  rw [hv] at a
  exact ⟨_, x, us, e, List.getElem?_eq_getElem hi, Option.some.inj a, b, d⟩
theorem in1_units (A : Around) : A.in1.units = A.units + 1 := rfl
/-- what the run gives against what is due -/
theorem T.neRun {a b ka kb ra rb : Addr} {kv dv rv qv : List Value} {e1 e2 e3 e4 : Nat} {ys : List Str} {rs : List (List Nat)} {n : Nat} (G : Gd c (n + 1)) (ha : (a, tup [.ref ka, .ref ra]) ∈ led) (hb : (b, tup [.ref kb, .ref rb]) ∈ led)
    (hka : (ka, lst kv e1) ∈ led) (hkb : (kb, lst dv e2) ∈ led) (hra : (ra, lst rv e3) ∈ led) (hrb : (rb, lst qv e4) ∈ led) (hkv : StrsAre kv ys) (hdv : StrsAre dv ys) (hrv : ListsAre led rv rs) (hqv : ListsAre led qv rs)
    (h : Q (.bool false) m led) : T c m led (compareOp .NotEq (.ref a) (.ref b)) Q X := .mk fun hp tk R => by
  have hu : c.A.units + 20 < cLine := Nat.lt_of_le_of_lt (by omega) G.units
  refine EqBoolInt.of_rcne (s := c.s hp tk) (SeqAt.RcNeAt.tuples (e := fun _ => true) (items := #[.ref ka, .ref ra]) (items2 := #[.ref kb, .ref rb]) ⟨_, R.get ha, rfl, 0, rfl⟩ ⟨_, R.get hb, rfl, 0, rfl⟩ (by omega) (fun j h1 h2 => ?_)) ?_
  · match j, h1, h2 with
    | 0, _, _ => exact eqAt_lists R (by rw [in1_units]; omega) hka hkb (by rw [hkv.len_eq, hdv.len_eq]) fun j v w h1 h2 => eqAt_strs hkv hdv h1 h2 _ _
    | 1, _, _ =>
      refine eqAt_lists R (by rw [in1_units]; omega) hra hrb (by rw [hrv.1, hqv.1]) fun j v w h1 h2 => ?_
      obtain ⟨r, x, us, e, g1, rfl, g3, g4⟩ := hrv.at h1
      obtain ⟨r', y, us', e', g1', rfl, g3', g4'⟩ := hqv.at h2
      rw [g1] at g1'; cases g1'
      exact eqAt_lists R (by rw [in1_units, in1_units]; omega) g3 g3' (by rw [ints_len g4, ints_len g4']) fun j v w h1 h2 => eqAt_ints g4 g4' h1 h2 _ _
    | k + 2, h, _ => simp at h; omega
  · exact post_ok R h
theorem T.isNotTrue {v : Value} (hv : v = .bool true) (h : Q (.bool false) m led) : T c m led (compareOp .IsNot v (.bool true)) Q X := .mk fun hp tk R => by subst hv; exact wpAny_isNot_self rfl (post_ok R h)
theorem rounds_eq {ps : List Nat} (H : Tree ps) {D D' : Nat} (h1 : ∀ j < D, roundAt ps j ≠ []) (h2 : roundAt ps D = []) (h3 : D' ∈ dps ps) (h4 : ∀ a ∈ dps ps, a ≤ D') : D = D' + 1 := by
  obtain ⟨k, hk, rfl⟩ := List.mem_map.mp h3
  have h5 := dep_lt H h2 k (List.mem_range.mp hk)
  obtain ⟨k2, hk2⟩ := List.exists_mem_of_ne_nil _ (h1 (D - 1) (by omega))
  obtain ⟨h6, h7⟩ := round_mem.mp hk2
  have := h4 _ (List.mem_map.mpr ⟨k2, List.mem_range.mpr h6, rfl⟩)
  omega
theorem T.execs_of {b rest : List Stmt} {x : Stmt} {Q : Flow → Loc → Led → Prop} (hb : b = x :: rest) (h : T c m led (execs (x :: rest) env) Q X) : T c m led (execs b env) Q X := hb ▸ h
end
-- F22
theorem g_tree (w : World) : nsIn (kk.heap_1 w.params) mainGlobals (Str.ofString "_law_tree") = some (some (.ref 258)) := by kernel_rfl
theorem g_paths (w : World) : nsIn (kk.heap_1 w.params) mainGlobals (Str.ofString "_law_paths") = some (some (.ref 265)) := by kernel_rfl
theorem g_merge (w : World) : nsIn (kk.heap_1 w.params) mainGlobals (Str.ofString "merge_entries") = some (some (.ref 70)) := by kernel_rfl
theorem g_climbed (w : World) : nsIn (kk.heap_1 w.params) mainGlobals (Str.ofString "_law_climbed") = some (some (.ref 303)) := by kernel_rfl
theorem g_right (w : World) : nsIn (kk.heap_1 w.params) mainGlobals (Str.ofString "_law_modes_right") = some (some (.ref 322)) := by kernel_rfl
theorem g_run (w : World) : nsIn (kk.heap_1 w.params) mainGlobals (Str.ofString "_law_run") = some (some (.ref 291)) := by kernel_rfl
theorem g_rounds (w : World) : nsIn (kk.heap_1 w.params) mainGlobals (Str.ofString "_law_rounds") = some (some (.ref 315)) := by kernel_rfl
def st (i : Nat) : Stmt := (pw.main.body[i]?).getD (.Pass ⟨0,0,0,0⟩)
def dOf : Stmt → DefRec
  | .FunctionDef n a b _ _ _ s _ _ p => ⟨n, a, b, s, p⟩
  | _ => ⟨Str.empty, default, [], default, default⟩
def lawB (i : Nat) : List Stmt := (dOf (st 47)).body.drop i
def lawE (L : Addr) (cdv : Value) : Env := envD (Str.ofString "law") (dOf (st 47)).scope L 327 cdv []
abbrev lawM (a b c d e f g h : Option Value) : Loc := [(Str.ofString "script", a), (Str.ofString "row", b), (Str.ofString "tree", c), (Str.ofString "lines", d), (Str.ofString "late", e), (Str.ofString "first", f), (Str.ofString "second", g), (Str.ofString "due", h)]
/-- where the law's things lie -/
structure LA where
  rl : Addr
  pl : Addr
  ml : Addr
  pa : Addr
  la : Addr
  bx : Addr
  bd : Addr
  bu : Addr
  br : Addr
  wx : Addr
  wd : Addr
  rv : List Value
  us : List Value
  ws : List Value
  pv : List Value
  lv : List Value
  e1 : Nat
  e2 : Nat
  e3 : Nat
  e4 : Nat
  e5 : Nat
  e6 : Nat
  e7 : Nat
  kb : Nat → Int × Tok
  kw : Nat → Int × Tok
  dl : Value
  wu : Value
  t0 : Tok
  t1 : Tok
def rulesOf (ps : List Nat) (ms : List (Nat × Nat)) : List (Str × Str) := ms.map fun p => (pathOf ps p.1, vN p.2)
def dueD (ms : List (Nat × Nat)) (r : Nat) : Nat := [(ms.getD 0 (0, 0)).2 % 4096, 0, (ms.getD 1 (0, 0)).2 % 4096].getD r 0
structure LW (L : Addr) (ps : List Nat) (ms : List (Nat × Nat)) (ns : List Int) (a : LA) (l : Led) : Prop where
  par : (L + 1, cellO (some (.ref a.pl))) ∈ l
  mod : (L + 1 + 1, cellO (some (.ref a.ml))) ∈ l
  pat : (L + 1 + 1 + 1, cellO (some (.ref a.pa))) ∈ l
  bot : (L + 1 + 1 + 1 + 1, cellO (some (.ref a.bx))) ∈ l
  who : (L + 1 + 1 + 1 + 1 + 1, cellO (some (.ref a.wx))) ∈ l
  rl : (a.rl, lst a.rv a.e1) ∈ l
  rv : IntsAre a.rv ns
  pl : (a.pl, lst a.us a.e2) ∈ l
  us : IntsAre a.us (nat2 ps)
  ml : (a.ml, lst a.ws a.e3) ∈ l
  ws : Pairs l a.ws ms
  pa : (a.pa, lst a.pv a.e4) ∈ l
  pv : StrsAre a.pv ((List.range ps.length).map (pathOf ps))
  la : (a.la, lst a.lv a.e5) ∈ l
  lv : RulesAre l a.lv (rulesOf ps ms)
  bx : (a.bx, instObj 59 a.bd) ∈ l
  bd : (a.bd, entO a.kb (.ref a.bu) (.ref a.br) a.dl .none) ∈ l
  bu : (a.bu, lst [.str "fig" a.t0, .str "plum" a.t1] a.e6) ∈ l
  br : (a.br, lst a.lv a.e7) ∈ l
  dl : ∃ t, a.dl = .int (dueD ms (ns.sum.fmod 3).toNat : Nat) t
  wx : (a.wx, instObj 59 a.wd) ∈ l
  wd : (a.wd, entO a.kw a.wu (.ref a.la) .none .none) ∈ l
theorem LW.mono {L : Addr} {ps : List Nat} {ms : List (Nat × Nat)} {ns : List Int} {a : LA} {l l' : Led} (h : LW L ps ms ns a l) (hs : ∀ q ∈ l, q ∈ l') : LW L ps ms ns a l' :=
  ⟨hs _ h.par, hs _ h.mod, hs _ h.pat, hs _ h.bot, hs _ h.who, hs _ h.rl, h.rv, hs _ h.pl, h.us, hs _ h.ml, h.ws.mono hs, hs _ h.pa, h.pv, hs _ h.la, h.lv.mono hs, hs _ h.bx, hs _ h.bd, hs _ h.bu, hs _ h.br, h.dl, hs _ h.wx, hs _ h.wd⟩
def lawQ (fl : Flow) (l : Led) : Prop := fl = .ret (.bool true) ∧ ∃ tb, (267, tabObj tb) ∈ l
theorem ms_at {ps : List Nat} {ms : List (Nat × Nat)} (H : TreeOk ps ms) {i : Nat} (hi : i < 2) : ms[i]? = some (ms.getD i (0, 0)) := by
  have := H.mlo
  rw [List.getD_eq_getElem?_getD, List.getElem?_eq_getElem (by omega)]; rfl
theorem due_at {ms : List (Nat × Nat)} {p0 p1 : Nat × Nat} (h0 : ms.getD 0 (0, 0) = p0) (h1 : ms.getD 1 (0, 0) = p1) {s0 s1 s2 : Tok} {r : Int} (hr0 : 0 ≤ r) (hr3 : r < 3) :
    ∃ t, ([.int ((p0.2 : Int).fmod 4096) s0, .int 0 s1, .int ((p1.2 : Int).fmod 4096) s2] : List Value)[r.toNat]? = some (.int (dueD ms r.toNat : Nat) t) := by
  have e : ∀ x : Nat, (x : Int).fmod 4096 = ((x % 4096 : Nat) : Int) := fun x => by
    rw [Int.fmod_eq_emod_of_nonneg _ (by decide)]; rfl
  unfold dueD
  rw [h0, h1, e, e]
  have : r = 0 ∨ r = 1 ∨ r = 2 := by omega
  rcases this with rfl | rfl | rfl
  · exact ⟨s0, rfl⟩
  · exact ⟨s1, rfl⟩
  · exact ⟨s2, rfl⟩
section
variable {c : Cx} {m : Loc} {led : Led} {X : Value → Loc → Led → Prop} {Q : Value → Loc → Led → Prop} {env : Env}
theorem law16 {n : Nat} (G : Gd c (n + 7)) {ps : List Nat} {ms : List (Nat × Nat)} {ns : List Int} (H : TreeOk ps ms) {a : LA} {tb : Array Value} (W : LW c.L ps ms ns a led) (h267 : (267, tabObj tb) ∈ led) {cdv : Value} {o1 o2 o3 o4 o5 o6 : Option Value} :
    T c (lawM o1 (some (.ref a.rl)) o2 (some (.ref a.la)) o3 o4 o5 o6) led (execs (lawB 16) (lawE c.L cdv)) (fun fl _ l => lawQ fl l) NoX := by
  obtain ⟨hpar, hmod, hpat, hbot, hwho, hrl, hrv, hpl, hus, hml, hws, hpa, hpv, hla, hlv, hbx, hbd, hbu, hbr, ⟨tdl, hdl⟩, hwx, hwd⟩ := W
  refine T.execs_of rfl ?_
  repeat' wtm_at "c"
  refine T.attr (by with_unfolding_all rfl) ?_
  repeat' wtm_at "c"
  refine T.getA (v := a.dl) G hbx hbd (ent_ga _) (by kernel_rfl) (by rw [hdl]; rfl) ?_
  repeat' wtm_at "c"
  obtain ⟨y0, u0, u0', hw0, hy0⟩ := hws.2 0 _ (ms_at H (by omega : 0 < 2))
  obtain ⟨y1, u1, u1', hw1, hy1⟩ := hws.2 1 _ (ms_at H (by omega : 1 < 2))
  generalize hmd0 : ms.getD 0 (0, 0) = p0 at hy0
  generalize hmd1 : ms.getD 1 (0, 0) = p1 at hy1
  refine T.list (by kernel_rfl) ?_
  repeat' wtm_at "c"
  refine T.item (l := a.ml) hml (by decide) (by decide) hw0 (by kernel_rfl) ?_
  repeat' wtm_at "c"
  refine T.titem (l := y0) (v := .int (p0.2 : Nat) u0') hy0 (by decide) (by decide) rfl (by kernel_rfl) ?_
  repeat' wtm_at "c"
  refine T.item (l := a.ml) hml (by decide) (by decide) hw1 (by kernel_rfl) ?_
  repeat' wtm_at "c"
  refine T.titem (l := y1) (v := .int (p1.2 : Nat) u1') hy1 (by decide) (by decide) rfl (by kernel_rfl) ?_
  repeat' wtm_at "c"
  refine ⟨by show 3 ≤ _; decide, fun tl => ?_⟩
  repeat' wtm_at "c"
  refine T.bltn G (g_no_sum _) b_sum (by decide) rfl rfl rfl (by kernel_rfl) (by kernel_rfl) ?_
  refine T.cwb ?_
  repeat' wtm_at "c"
  refine T.sum G.hdl (.tail _ hrl) hrv fun ts => ?_
  repeat' wtm_at "c"
  have hr0 : 0 ≤ ns.sum.fmod 3 := Int.fmod_nonneg_of_pos _ (by decide)
  have hr3 : ns.sum.fmod 3 < 3 := Int.fmod_lt_of_pos _ (by decide)
  refine T.item (l := tl) (.head _) hr0 (by omega) (due_at hmd0 hmd1 hr0 hr3).choose_spec (by kernel_rfl) ?_
  rw [hdl]
  refine T.eq ?_
  rw [show (((dueD ms (ns.sum.fmod 3).toNat : Nat) : Int) == ((dueD ms (ns.sum.fmod 3).toNat : Nat) : Int)) = true from beq_self_eq_true _]
  repeat wtm_at "un"
  exact ⟨rfl, tb, .tail _ h267⟩
theorem reach_x (ps : List Nat) (j : Nat) : reach (Str.ofString "x") (pathOf ps j) = 0 := by
  unfold reach
  rw [if_neg]
  intro q
  have := sw_iff.mp q
  rw [path_enc, show (Str.ofString "x").cps.toList = [120] from by decide +kernel, List.cons_prefix_cons] at this
  exact absurd this.1 (by decide)
theorem rules_len {ps : List Nat} {ms : List (Nat × Nat)} : ∀ r ∈ rulesOf ps ms, r.2.length < 1000 := fun r hr => by
  obtain ⟨p, _, rfl⟩ := List.mem_map.mp hr
  exact vN_len _
theorem law15 {n : Nat} (G : Gd c (n + 7)) {ps : List Nat} {ms : List (Nat × Nat)} {ns : List Int} (H : TreeOk ps ms) {a : LA} {tb : Array Value} (W : LW c.L ps ms ns a led) (h267 : (267, tabObj tb) ∈ led) {cdv : Value} {o1 o2 o3 o4 o5 o6 : Option Value} :
    T c (lawM o1 (some (.ref a.rl)) o2 (some (.ref a.la)) o3 o4 o5 o6) led (execs (lawB 15) (lawE c.L cdv)) (fun fl _ l => lawQ fl l) NoX := by
  have W0 := W
  obtain ⟨hpar, hmod, hpat, hbot, hwho, hrl, hrv, hpl, hus, hml, hws, hpa, hpv, hla, hlv, hbx, hbd, hbu, hbr, ⟨tdl, hdl⟩, hwx, hwd⟩ := W
  refine T.execs_of rfl ?_
  refine T.execs_cons ?_
  refine T.ite ?_
  refine T.or1 ?_
  repeat' wtm_at "c"
  refine T.mcall (by kernel_rfl) (by kernel_rfl) ?_
  repeat' wtm_at "c"
  refine T.imethod (C := 59) (dx := a.wd) (f := 56) G hwx hwd (by kernel_rfl) (by kernel_rfl) (by kernel_rfl) (by kernel_rfl) ?_
  refine T.cw G (by kernel_rfl) ?_
  repeat' wtm_at "c"
  refine allowance_T G hwx hwd hla hlv rules_len fun v hv => ?_
  rw [allow_none (fun r hr => by obtain ⟨p, _, rfl⟩ := List.mem_map.mp hr; exact reach_x ps p.1)] at hv
  repeat' wtm_at "c"
  refine T.isNotTrue hv ?_
  repeat' wtm_at "c"
  rw [if_neg Bool.false_ne_true]
  refine T.or1 ?_
  repeat' wtm_at "c"
  refine T.attr (by with_unfolding_all rfl) ?_
  repeat' wtm_at "c"
  refine T.getA (v := .ref a.bu) G hbx hbd (ent_ga _) (by kernel_rfl) rfl ?_
  refine T.list (by kernel_rfl) ?_
  repeat' wtm_at "c"
  refine ⟨by show 2 ≤ _; decide, fun tl => ?_⟩
  refine T.neStrs (ys := [Str.ofString "fig", Str.ofString "plum"]) G (.tail _ hbu) (.head _) (.cons _ _ (.cons _ _ .nil)) (.cons _ _ (.cons _ _ .nil)) ?_
  repeat' wtm_at "c"
  rw [if_neg Bool.false_ne_true]
  refine T.or1 ?_
  repeat' wtm_at "c"
  refine T.attr (by with_unfolding_all rfl) ?_
  repeat' wtm_at "c"
  refine T.getA (v := .ref a.br) G (.tail _ hbx) (.tail _ hbd) (ent_ga _) (by kernel_rfl) rfl ?_
  repeat' wtm_at "c"
  refine T.neSame G (.tail _ hbr) (.tail _ hla) ?_
  repeat' wtm_at "c"
  rw [if_neg Bool.false_ne_true]
  refine T.or0 ?_
  rw [if_neg Bool.false_ne_true]
  refine T.execs_nil ?_
  show T c _ _ (execs (lawB 16) _) _ _
  exact law16 G H (W0.mono fun q hq => .tail _ hq) (.tail _ h267)
theorem law14 {n : Nat} (G : Gd c (n + 7)) {ps : List Nat} {ms : List (Nat × Nat)} {ns : List Int} (H : TreeOk ps ms) {a : LA} {tb : Array Value} (W : LW c.L ps ms ns a led) (h267 : (267, tabObj tb) ∈ led) {da : Addr} {dv : List Value} {e8 : Nat} (hda : (da, lst dv e8) ∈ led) (hdv : StrsAre dv ((List.range ps.length).map (climbed ps ms))) {cdv : Value} {o1 o2 o3 o4 o5 : Option Value} :
    T c (lawM o1 (some (.ref a.rl)) o2 (some (.ref a.la)) o3 o4 o5 (some (.ref da))) led (execs (lawB 14) (lawE c.L cdv)) (fun fl _ l => lawQ fl l) NoX := by
  have W0 := W
  obtain ⟨hpar, hmod, hpat, hbot, hwho, hrl, hrv, hpl, hus, hml, hws, hpa, hpv, hla, hlv, hbx, hbd, hbu, hbr, ⟨tdl, hdl⟩, hwx, hwd⟩ := W
  have hNlo := H.lo
  have hNhi := H.hi
  have hpl2 : a.pv.length = ps.length := by have := hpv.len_eq; simpa using this
  refine T.execs_of rfl ?_
  refine T.execs_cons ?_
  refine T.ite ?_
  refine T.or1 ?_
  repeat' wtm_at "c"
  refine T.comp (cl := [(Str.ofString "whole", c.L + 1 + 1 + 1 + 1 + 1)]) (by kernel_rfl) (by kernel_rfl) (by kernel_rfl) ?_
  repeat' wtm_at "c"
  refine T.itA_list (x := a.pa) (vs := a.pv) (n := a.e4) G.hdl (fun p hp => ?_) fun I oI S W hS => ?_
  · rw [List.mem_singleton.mp hp]; exact .inl hpa
  refine TK.loop W hS G 0 (fun _ => rfl) (fun c'' i m₁ vs l₁ => ∃ o1, m₁ = [(Str.ofString ".0", none), (Str.ofString "path", o1)] ∧ l₁ = led ∧ StrsAre vs ((List.range i).map (climbed ps ms))) [(Str.ofString ".0", none), (Str.ofString "path", none)] (lookL_none rfl) ?_ ?_ ?_ ?_
  · rintro c'' i m₁ us' l₁ ⟨_, _, rfl, _⟩ p hp
    rw [List.mem_singleton.mp hp]; exact .inl hpa
  · intro c'' _ _ _
    exact ⟨none, rfl, rfl, .nil⟩
  · rintro c'' i v o acc vs m₁ l₁ hcw2 hA2 G'' hst hi hv ⟨o1, rfl, rfl, hvs⟩
    have hiN : i < ps.length := by omega
    obtain ⟨tp, hat⟩ := range_at hpv hiN
    rw [hv] at hat; cases hat
    refine T.asName ?_
    repeat' wtm_at "c"
    refine T.tests_nil ?_
    rw [if_pos rfl]
    refine T.mcall (by kernel_rfl) (by kernel_rfl) ?_
    repeat' wtm_at "c"
    refine T.imethod (C := 59) (dx := a.wd) (f := 56) G'' (.tail _ (.tail _ hwx)) (.tail _ (.tail _ hwd)) (by kernel_rfl) (by kernel_rfl) (by kernel_rfl) (by kernel_rfl) ?_
    refine T.cw G'' (by kernel_rfl) ?_
    repeat' wtm_at "c"
    refine allowance_T G'' (.tail _ (.tail _ hwx)) (.tail _ (.tail _ hwd)) (.tail _ (.tail _ hla)) (hlv.mono fun q hq => .tail _ (.tail _ hq)) rules_len fun v hv => ?_
    rw [show allow (rulesOf ps ms) (pathOf ps i) = some (climbed ps ms i) from allow_whole H hiN (t := []) (by simp) (by rw [path_enc, List.append_nil])] at hv
    obtain ⟨tz, rfl⟩ := hv
    refine ⟨by have := StrsAre.len_eq hvs; rw [List.length_map, List.length_range] at this; unfold sizeLine; omega, _, .refl _, _, rfl, rfl, ?_⟩
    rw [List.range_succ, List.map_append]
    exact StrsAre.snoc hvs
  rintro c'' acc m₁ vs _ ⟨_, _, hll, hvs⟩
  rw [hll]
  rw [hpl2] at hvs
  repeat' wtm_at "c"
  refine T.neStrs G (.head _) (.tail _ hda) hvs hdv ?_
  repeat' wtm_at "c"
  rw [if_neg Bool.false_ne_true]
  clear hvs
  refine T.part (.cons (.refl _)) ?_
  refine T.or1 ?_
  repeat' wtm_at "c"
  refine T.comp (cl := [(Str.ofString "both", c.L + 1 + 1 + 1 + 1)]) (by kernel_rfl) (by kernel_rfl) (by kernel_rfl) ?_
  repeat' wtm_at "c"
  refine T.itA_list (x := a.pa) (vs := a.pv) (n := a.e4) G.hdl (fun p hp => ?_) fun I oI S W hS => ?_
  · rw [List.mem_singleton.mp hp]; exact .inl hpa
  refine TK.loop W hS G 0 (fun _ => rfl) (fun c'' i m₁ vs l₁ => ∃ o1, m₁ = [(Str.ofString ".0", none), (Str.ofString "path", o1)] ∧ l₁ = led ∧ StrsAre vs ((List.range i).map (climbed ps ms))) [(Str.ofString ".0", none), (Str.ofString "path", none)] (lookL_none rfl) ?_ ?_ ?_ ?_
  · rintro c'' i m₁ us' l₁ ⟨_, _, rfl, _⟩ p hp
    rw [List.mem_singleton.mp hp]; exact .inl hpa
  · intro c'' _ _ _
    exact ⟨none, rfl, rfl, .nil⟩
  · rintro c'' i v o acc vs m₁ l₁ hcw2 hA2 G'' hst hi hv ⟨o1, rfl, rfl, hvs⟩
    have hiN : i < ps.length := by omega
    obtain ⟨tp, hat⟩ := range_at hpv hiN
    rw [hv] at hat; cases hat
    refine T.asName ?_
    repeat' wtm_at "c"
    refine T.tests_nil ?_
    rw [if_pos rfl]
    refine T.mcall (by kernel_rfl) (by kernel_rfl) ?_
    repeat' wtm_at "c"
    refine T.imethod (C := 59) (dx := a.bd) (f := 56) G'' (.tail _ (.tail _ hbx)) (.tail _ (.tail _ hbd)) (by kernel_rfl) (by kernel_rfl) (by kernel_rfl) (by kernel_rfl) ?_
    refine T.cw G'' (by kernel_rfl) ?_
    repeat' wtm_at "c"
    refine T.sadd (by have := pathOf_len ps i; have h1 : (Str.ofString "x").length = 1 := rfl; rw [h1]; unfold sizeLine; omega) fun tx => ?_
    repeat' wtm_at "c"
    refine allowance_T G'' (.tail _ (.tail _ hbx)) (.tail _ (.tail _ hbd)) (.tail _ (.tail _ hbr)) (hlv.mono fun q hq => .tail _ (.tail _ hq)) rules_len fun v hv => ?_
    rw [show allow (rulesOf ps ms) (pathOf ps i ++ Str.ofString "x") = some (climbed ps ms i) from allow_whole H hiN (t := [120]) (by simp) (by
      show ((pathOf ps i).cps ++ (Str.ofString "x").cps).toList = _
      rw [Array.toList_append, path_enc, show (Str.ofString "x").cps.toList = [120] from by decide +kernel]; rfl)] at hv
    obtain ⟨tz, rfl⟩ := hv
    refine ⟨by have := StrsAre.len_eq hvs; rw [List.length_map, List.length_range] at this; unfold sizeLine; omega, _, .refl _, _, rfl, rfl, ?_⟩
    rw [List.range_succ, List.map_append]
    exact StrsAre.snoc hvs
  rintro c'' acc m₁ vs _ ⟨_, _, hll, hvs⟩
  rw [hll]
  rw [hpl2] at hvs
  repeat' wtm_at "c"
  refine T.neStrs G (.head _) (.tail _ hda) hvs hdv ?_
  repeat' wtm_at "c"
  rw [if_neg Bool.false_ne_true]
  refine T.or0 ?_
  rw [if_neg Bool.false_ne_true]
  refine T.execs_nil ?_
  refine T.part (.cons (.refl _)) ?_
  show T c _ _ (execs (lawB 15) _) _ _
  exact law15 G H W0 h267
theorem law13 {n : Nat} (G : Gd c (n + 7)) {ps : List Nat} {ms : List (Nat × Nat)} {ns : List Int} (H : TreeOk ps ms) {a : LA} {tb : Array Value} {base : Led} (W : LW c.L ps ms ns a base) (hT : LamTab lamPos lamQual tb base) {da : Addr} {dv : List Value} {e8 : Nat} (hda : (da, lst dv e8) ∈ base) (hdv : StrsAre dv ((List.range ps.length).map (climbed ps ms))) {cdv : Value} {o1 o2 o3 o4 o5 : Option Value} :
    T c (lawM o1 (some (.ref a.rl)) o2 (some (.ref a.la)) o3 o4 o5 (some (.ref da))) ((267, tabObj tb) :: base) (execs (lawB 13) (lawE c.L cdv)) (fun fl _ l => lawQ fl l) NoX := by
  have W0 := W
  obtain ⟨hpar, hmod, hpat, hbot, hwho, hrl, hrv, hpl, hus, hml, hws, hpa, hpv, hla, hlv, hbx, hbd, hbu, hbr, ⟨tdl, hdl⟩, hwx, hwd⟩ := W
  have hNlo := H.lo
  have hNhi := H.hi
  refine T.execs_of rfl ?_
  refine T.execs_cons ?_
  refine T.ite ?_
  repeat' wtm_at "c"
  refine T.global G (g_run _) rfl rfl (by kernel_rfl) (by kernel_rfl) ?_
  refine T.cw G (by kernel_rfl) ?_
  repeat' wtm_at "c"
  refine T.bltn G (g_no_sum _) b_sum (by decide) rfl rfl rfl (by kernel_rfl) (by kernel_rfl) ?_
  refine T.cwb ?_
  repeat' wtm_at "c"
  refine T.sum G.hdl (.tail _ hrl) hrv fun ts => ?_
  repeat' wtm_at "c"
  refine run_T G H hpl hus hpa hpv hml hws hT fun ra ka kv ek rr rv er tb' g D hT' hkv hD1 hD2 hrv2 => ?_
  have hin : ∀ z, z ∈ base → z ∈ (267, tabObj tb') :: (ra, tup [.ref ka, .ref rr]) :: (ka, lst kv ek) :: (rr, lst rv er) :: (g ++ base) := fun z hz => .tail _ (.tail _ (.tail _ (.tail _ (List.mem_append_right _ hz))))
  have hin2 : ∀ z, z ∈ g → z ∈ (267, tabObj tb') :: (ra, tup [.ref ka, .ref rr]) :: (ka, lst kv ek) :: (rr, lst rv er) :: (g ++ base) := fun z hz => .tail _ (.tail _ (.tail _ (.tail _ (List.mem_append_left _ hz))))
  have hra : (ra, tup [.ref ka, .ref rr]) ∈ (267, tabObj tb') :: (ra, tup [.ref ka, .ref rr]) :: (ka, lst kv ek) :: (rr, lst rv er) :: (g ++ base) := .tail _ (.head _)
  have hka : (ka, lst kv ek) ∈ (267, tabObj tb') :: (ra, tup [.ref ka, .ref rr]) :: (ka, lst kv ek) :: (rr, lst rv er) :: (g ++ base) := .tail _ (.tail _ (.head _))
  have hrr : (rr, lst rv er) ∈ (267, tabObj tb') :: (ra, tup [.ref ka, .ref rr]) :: (ka, lst kv ek) :: (rr, lst rv er) :: (g ++ base) := .tail _ (.tail _ (.tail _ (.head _)))
  have h267 : (267, tabObj tb') ∈ (267, tabObj tb') :: (ra, tup [.ref ka, .ref rr]) :: (ka, lst kv ek) :: (rr, lst rv er) :: (g ++ base) := .head _
  have hrv3 := hrv2.mono hin2
  have hda2 := hin _ hda
  have hpl2 := hin _ hpl
  have hpar2 := hin _ hpar
  have W2 := W0.mono hin
  clear hin hin2
  generalize (267, tabObj tb') :: (ra, tup [.ref ka, .ref rr]) :: (ka, lst kv ek) :: (rr, lst rv er) :: (g ++ base) = l2 at *
  refine T.tuple (by kernel_rfl) ?_
  repeat' wtm_at "c"
  refine T.global G (g_rounds _) rfl rfl (by kernel_rfl) (by kernel_rfl) ?_
  refine T.cw G (by kernel_rfl) ?_
  repeat' wtm_at "c"
  refine rounds_T G H.tree (by omega) hNhi hpl2 hus fun D' qx qv g2 h1 h2 h3 => ?_
  repeat' wtm_at "c"
  refine ⟨by show 2 ≤ _; decide, fun tx => ?_⟩
  rw [rounds_eq H.tree hD1 hD2 h1 h2] at hrv3
  refine T.neRun G (.tail _ (.tail _ (List.mem_append_right _ hra))) (.head _) (.tail _ (.tail _ (List.mem_append_right _ hka))) (.tail _ (.tail _ (List.mem_append_right _ hda2))) (.tail _ (.tail _ (List.mem_append_right _ hrr))) (.tail _ (.head _)) hkv hdv (hrv3.mono fun z hz => .tail _ (.tail _ (List.mem_append_right _ hz))) (h3.mono fun z hz => .tail _ (.tail _ (List.mem_append_left _ hz))) ?_
  repeat' wtm_at "c"
  rw [if_neg Bool.false_ne_true]
  refine T.execs_nil ?_
  refine T.part (l' := l2) (.cons (.cons (.app (.refl _)))) ?_
  show T c _ _ (execs (lawB 14) _) _ _
  exact law14 G H W2 h267 hda2 hdv
theorem law11 {n : Nat} (G : Gd c (n + 7)) {ps : List Nat} {ms : List (Nat × Nat)} {ns : List Int} (H : TreeOk ps ms) {a : LA} {tb : Array Value} {base : Led} (W : LW c.L ps ms ns a base) (hT : LamTab lamPos lamQual tb base) {cdv : Value} {o1 o2 o3 o4 o5 o6 : Option Value} :
    T c (lawM o1 (some (.ref a.rl)) o2 (some (.ref a.la)) o3 o4 o5 o6) ((267, tabObj tb) :: base) (execs (lawB 11) (lawE c.L cdv)) (fun fl _ l => lawQ fl l) NoX := by
  have W0 := W
  obtain ⟨hpar, hmod, hpat, hbot, hwho, hrl, hrv, hpl, hus, hml, hws, hpa, hpv, hla, hlv, hbx, hbd, hbu, hbr, ⟨tdl, hdl⟩, hwx, hwd⟩ := W
  have hNlo := H.lo
  have hNhi := H.hi
  have hul := ints_len hus
  refine T.execs_of rfl ?_
  refine T.execs_cons ?_
  refine T.assign_comp (cl := [(Str.ofString "parents", c.L + 1), (Str.ofString "modes", c.L + 1 + 1)]) (by kernel_rfl) (by kernel_rfl) (by kernel_rfl) (by kernel_rfl) (by kernel_rfl) (by with_unfolding_all rfl) (by kernel_rfl) ?_
  repeat' wtm_at "c"
  wtm_at "range"
  wtm_at "len"
  refine T.len (l := a.pl) (.tail _ hpl) (by omega) fun t1 => ?_
  repeat' wtm_at "c"
  refine T.range1 fun r t3 t4 => ?_
  rw [hul]
  refine T.itA_range G.hdl (.head _) (by omega) (by omega) (by omega) (by omega) fun I oI S W hS => ?_
  rw [show (((ps.length : Nat) : Int) - 0).toNat = ps.length by omega] at W
  refine TK.loop W hS G 0 (fun _ => rfl) (fun c'' i m₁ vs l₁ => ∃ o1, m₁ = [(Str.ofString ".0", none), (Str.ofString "k", o1)] ∧ l₁ = (r, rngO 0 (ps.length : Nat) t3 t1 t4) :: (267, tabObj tb) :: base ∧ StrsAre vs ((List.range i).map (climbed ps ms))) [(Str.ofString ".0", none), (Str.ofString "k", none)] (lookL_none rfl) ?_ ?_ ?_ ?_
  · rintro c'' i m₁ vs l₁ _ p hp
    cases hp
  · intro c'' _ _ _
    exact ⟨none, rfl, rfl, .nil⟩
  · rintro c'' i v o acc vs m₁ l₁ hcw2 hA2 G'' hst hi ⟨t5, rfl⟩ ⟨o1, rfl, rfl, hvs⟩
    rw [show (0 : Int) + ((i : Nat) : Int) = ((i : Nat) : Int) by omega]
    refine T.asName ?_
    repeat' wtm_at "c"
    refine T.tests_nil ?_
    rw [if_pos rfl]
    repeat' wtm_at "c"
    refine T.global G'' (g_climbed _) rfl rfl (by kernel_rfl) (by kernel_rfl) ?_
    refine T.cw G'' (by kernel_rfl) ?_
    repeat' wtm_at "c"
    refine climbed_T G'' H hi (.tail _ (.tail _ (.tail _ (.tail _ hpl)))) hus (.tail _ (.tail _ (.tail _ (.tail _ hml)))) (hws.mono fun z hz => .tail _ (.tail _ (.tail _ (.tail _ hz)))) fun t6 => ?_
    refine ⟨by have := StrsAre.len_eq hvs; rw [List.length_map, List.length_range] at this; unfold sizeLine; omega, _, .refl _, _, rfl, rfl, ?_⟩
    rw [List.range_succ, List.map_append]
    exact StrsAre.snoc hvs
  rintro c'' acc m₁ dv _ ⟨_, _, hll, hdv⟩
  rw [hll]
  show T c (lawM o1 (some (.ref a.rl)) o2 (some (.ref a.la)) o3 o4 o5 (some (.ref acc))) _ _ _ _
  refine T.part (l' := (267, tabObj tb) :: (acc, lst dv dv.length) :: base) ⟨_, .swap .., .cons_cons _ (.cons _ (.refl _))⟩ ?_
  repeat' wtm_at "c"
  refine T.isNot ?_
  refine T.truth rfl ?_
  repeat' wtm_at "c"
  refine T.global G (g_right _) rfl rfl (by kernel_rfl) (by kernel_rfl) ?_
  refine T.cw G (by kernel_rfl) ?_
  repeat' wtm_at "c"
  refine modes_right_T G (.tail _ (.tail _ hml)) (hws.mono fun z hz => .tail _ (.tail _ hz)) ?_
  refine T.truthy_bool ?_
  rw [if_neg (by decide)]
  refine T.execs_nil ?_
  repeat wtm_at "un"
  show T c _ _ (execs (lawB 13) _) _ _
  refine T.mono (law13 G H (W0.mono fun z hz => .tail _ hz) (hT.mono fun z hz => .tail _ hz) (.head _) hdv) fun _ _ _ q => ?_
  repeat wtm_at "un"
  exact q
structure LV (L : Addr) (ps : List Nat) (ms : List (Nat × Nat)) (ns : List Int) (rl pl ml pa la : Addr) (rv us ws pv lv : List Value) (e1 e2 e3 e4 e5 : Nat) (l : Led) : Prop where
  par : (L + 1, cellO (some (.ref pl))) ∈ l
  mod : (L + 1 + 1, cellO (some (.ref ml))) ∈ l
  pat : (L + 1 + 1 + 1, cellO (some (.ref pa))) ∈ l
  rl : (rl, lst rv e1) ∈ l
  rv : IntsAre rv ns
  pl : (pl, lst us e2) ∈ l
  us : IntsAre us (nat2 ps)
  ml : (ml, lst ws e3) ∈ l
  ws : Pairs l ws ms
  pa : (pa, lst pv e4) ∈ l
  pv : StrsAre pv ((List.range ps.length).map (pathOf ps))
  la : (la, lst lv e5) ∈ l
  lv : RulesAre l lv (rulesOf ps ms)
theorem pick_upto (vs : List Value) (b : Nat) : (slicePick vs.toArray none (some (b : Int)) none).toList = vs.take b := by rw [slicePick_upto']
theorem pick_from (vs : List Value) (b : Nat) : (slicePick vs.toArray (some (b : Int)) none none).toList = vs.drop b := by rw [slicePick_from']
def lateOk (x : Int) (r : Int) (v : Value) : Prop := (r = 0 ∧ v = .none) ∨ (r = 1 ∧ ∃ t, v = .int 0 t) ∨ (r = 2 ∧ ∃ t, v = .int x t)
theorem late_plain {x r : Int} {v : Value} (h : lateOk x r v) : plainIs v .none = true ∧ handedIn v = true := by
  rcases h with ⟨_, rfl⟩ | ⟨_, t, rfl⟩ | ⟨_, t, rfl⟩ <;> exact ⟨rfl, rfl⟩
theorem late_due {ms : List (Nat × Nat)} {p0 p1 : Nat × Nat} (h0 : ms.getD 0 (0, 0) = p0) (h1 : ms.getD 1 (0, 0) = p1) {r : Int} {v : Value} {t3 : Tok} (h : lateOk (Builtin.bitAnd (p1.2 : Nat) 4095) r v) :
    ∃ t, (if (v == .none) = true then .int (Builtin.bitAnd (p0.2 : Nat) 4095) t3 else v) = Value.int (dueD ms r.toNat : Nat) t := by
  unfold dueD
  rw [h0, h1]
  rcases h with ⟨rfl, rfl⟩ | ⟨rfl, t, rfl⟩ | ⟨rfl, t, rfl⟩
  · exact ⟨t3, by rw [imode_eq]; rfl⟩
  · exact ⟨t, rfl⟩
  · exact ⟨t, by rw [imode_eq]; rfl⟩
theorem T.lateItem {value slice : Expr} {l : Addr} {n : Nat} {s1 s2 u : Tok} {x r : Int} (hm : (l, lst [.none, .int 0 s1, .int x s2] n) ∈ led) (hr0 : 0 ≤ r) (hr3 : r < 3)
    (hs : subscripted slice false (.ref l) (.int r u) = operate [.ref l, .int r u] (getItem (.ref l) (.int r u))) (h : ∀ v, lateOk x r v → Q v m led) : T c m led (subscriptTail value slice (.ref l) (.int r u)) Q X := by
  have : r = 0 ∨ r = 1 ∨ r = 2 := by omega
  rcases this with rfl | rfl | rfl
  · exact T.item hm (by decide) (by decide) rfl hs (h _ (.inl ⟨rfl, rfl⟩))
  · exact T.item hm (by decide) (by decide) rfl hs (h _ (.inr (.inl ⟨rfl, _, rfl⟩)))
  · exact T.item hm (by decide) (by decide) rfl hs (h _ (.inr (.inr ⟨rfl, _, rfl⟩)))
theorem law10 {n : Nat} (G : Gd c (n + 7)) {ps : List Nat} {ms : List (Nat × Nat)} {ns : List Int} (H : TreeOk ps ms) {rl pl ml pa la : Addr} {rv us ws pv lv : List Value} {e1 e2 e3 e4 e5 : Nat} {tb : Array Value} {base : Led} (V : LV c.L ps ms ns rl pl ml pa la rv us ws pv lv e1 e2 e3 e4 e5 base) (hT : LamTab lamPos lamQual tb base) {cdv : Value} {o1 o2 o3 o4 o5 o6 : Option Value}
    {wx wd bx bd bu br : Addr} {wk bk : Nat → Int × Tok} {wu : Value} {be : Nat} {t0 t1 td : Tok} :
    T c (lawM o1 (some (.ref rl)) o2 (some (.ref la)) o3 o4 o5 o6) ((267, tabObj tb) :: (wx, instObj 59 wd) :: (wd, entO wk wu (.ref la) .none .none) :: (bx, instObj 59 bd) :: (bd, entO bk (.ref bu) (.ref br) (.int (dueD ms (ns.sum.fmod 3).toNat : Nat) td) .none) :: (bu, lst [.str (Str.ofString "fig") t0, .str (Str.ofString "plum") t1] be) :: (br, lst lv 0) :: (c.L + 1 + 1 + 1 + 1 + 1, cellO (some (.ref wx))) :: (c.L + 1 + 1 + 1 + 1, cellO (some (.ref bx))) :: base) (execs (lawB 11) (lawE c.L cdv)) (fun fl _ l => lawQ fl l) NoX := by
  obtain ⟨hpar, hmod, hpat, hrl, hrv, hpl, hus, hml, hws, hpa, hpv, hla, hlv⟩ := V
  have hin : ∀ z, z ∈ base → z ∈ (wx, instObj 59 wd) :: (wd, entO wk wu (.ref la) .none .none) :: (bx, instObj 59 bd) :: (bd, entO bk (.ref bu) (.ref br) (.int (dueD ms (ns.sum.fmod 3).toNat : Nat) td) .none) :: (bu, lst [.str (Str.ofString "fig") t0, .str (Str.ofString "plum") t1] be) :: (br, lst lv 0) :: (c.L + 1 + 1 + 1 + 1 + 1, cellO (some (.ref wx))) :: (c.L + 1 + 1 + 1 + 1, cellO (some (.ref bx))) :: base := fun z hz => by wtm_at "mem"
  exact law11 G H (a := ⟨rl, pl, ml, pa, la, bx, bd, bu, br, wx, wd, rv, us, ws, pv, lv, e1, e2, e3, e4, e5, be, 0, bk, wk, .int (dueD ms (ns.sum.fmod 3).toNat : Nat) td, wu, t0, t1⟩) ⟨hin _ hpar, hin _ hmod, hin _ hpat, by wtm_at "mem", by wtm_at "mem", hin _ hrl, hrv, hin _ hpl, hus, hin _ hml, hws.mono hin, hin _ hpa, hpv, hin _ hla, hlv.mono hin, by wtm_at "mem", by wtm_at "mem", by wtm_at "mem", by wtm_at "mem", ⟨td, rfl⟩, by wtm_at "mem", by wtm_at "mem"⟩ (hT.mono hin)
theorem law6 {n : Nat} (G : Gd c (n + 7)) {ps : List Nat} {ms : List (Nat × Nat)} {ns : List Int} (H : TreeOk ps ms) {rl pl ml pa la : Addr} {rv us ws pv lv : List Value} {e1 e2 e3 e4 e5 : Nat} {tb : Array Value} {base : Led} (V : LV c.L ps ms ns rl pl ml pa la rv us ws pv lv e1 e2 e3 e4 e5 base) (hT : LamTab lamPos lamQual tb base) {cdv : Value} {o1 o2 o3 o4 o5 o6 : Option Value} :
    T c (lawM o1 (some (.ref rl)) o2 (some (.ref la)) o3 o4 o5 o6) ((267, tabObj tb) :: (c.L + 1 + 1 + 1 + 1 + 1, cellO none) :: (c.L + 1 + 1 + 1 + 1, cellO none) :: base) (execs (lawB 6) (lawE c.L cdv)) (fun fl _ l => lawQ fl l) NoX := by
  obtain ⟨hpar, hmod, hpat, hrl, hrv, hpl, hus, hml, hws, hpa, hpv, hla, hlv⟩ := id V
  have hr0 : 0 ≤ ns.sum.fmod 3 := Int.fmod_nonneg_of_pos _ (by decide)
  have hr3 : ns.sum.fmod 3 < 3 := Int.fmod_lt_of_pos _ (by decide)
  obtain ⟨y0, u0, u0', hw0, hy0⟩ := hws.2 0 _ (ms_at H (by omega : 0 < 2))
  obtain ⟨y1, u1, u1', hw1, hy1⟩ := hws.2 1 _ (ms_at H (by omega : 1 < 2))
  generalize hmd0 : ms.getD 0 (0, 0) = p0 at hy0
  generalize hmd1 : ms.getD 1 (0, 0) = p1 at hy1
  have hll : lv.length = ms.length := by have := hlv.1; unfold rulesOf at this; simpa using this
  have hmhi := H.mhi
  refine T.execs_of rfl ?_
  repeat' wtm_at "c"
  refine T.list (by kernel_rfl) ?_
  repeat' wtm_at "c"
  refine T.global G (g_S_IMODE _) rfl rfl (by kernel_rfl) (by kernel_rfl) ?_
  refine T.cw G (by kernel_rfl) ?_
  repeat' wtm_at "c"
  refine T.item (l := ml) (by wtm_at "mem") (by decide) (by decide) hw1 (by kernel_rfl) ?_
  repeat' wtm_at "c"
  refine T.titem (l := y1) (v := .int (p1.2 : Nat) u1') (.tail _ (.tail _ (.tail _ hy1))) (by decide) (by decide) rfl (by kernel_rfl) ?_
  repeat' wtm_at "c"
  refine S_IMODE_T G fun t2 => ?_
  repeat' wtm_at "c"
  refine ⟨by show 3 ≤ _; decide, fun tl => ?_⟩
  repeat' wtm_at "c"
  refine T.bltn G (g_no_sum _) b_sum (by decide) rfl rfl rfl (by kernel_rfl) (by kernel_rfl) ?_
  refine T.cwb ?_
  repeat' wtm_at "c"
  refine T.sum G.hdl (.tail _ (.tail _ (.tail _ (.tail _ hrl)))) hrv fun ts => ?_
  repeat' wtm_at "c"
  refine T.lateItem (l := tl) (.head _) hr0 hr3 (by kernel_rfl) fun lt hlt => ?_
  repeat' wtm_at "c"
  show T c (lawM o1 (some (.ref rl)) o2 (some (.ref la)) (some lt) o4 o5 o6) _ _ _ _
  refine T.part (.cons (.refl _)) ?_
  refine T.global G (g_record _) rfl rfl (by kernel_rfl) (by kernel_rfl) ?_
  refine T.cw G (by kernel_rfl) ?_
  refine T.scons ?_
  refine T.list (by kernel_rfl) ?_
  repeat' wtm_at "c"
  refine ⟨by show 3 ≤ _; decide, fun ua => ?_⟩
  repeat' wtm_at "c"
  refine T.slice (T.pnone (T.psome ?_))
  repeat' wtm_at "c"
  refine T.pnone ?_
  intro s1
  refine T.sub_slice (l := la) [.ref s1, .ref la] (by wtm_at "mem") (.head _) .none (.int _ _) .none (by decide) (by unfold sizeLine; omega) (by kernel_rfl) fun b1 => ?_
  rw [show (slicePick lv.toArray none (some 2) none).toList = lv.take 2 from pick_upto lv 2]
  repeat' wtm_at "c"
  refine T.global G (g_S_IMODE _) rfl rfl (by kernel_rfl) (by kernel_rfl) ?_
  refine T.cw G (by kernel_rfl) ?_
  repeat' wtm_at "c"
  refine T.item (l := ml) (by wtm_at "mem") (by decide) (by decide) hw0 (by kernel_rfl) ?_
  repeat' wtm_at "c"
  refine T.titem (l := y0) (v := .int (p0.2 : Nat) u0') (by wtm_at "mem") (by decide) (by decide) rfl (by kernel_rfl) ?_
  repeat' wtm_at "c"
  refine S_IMODE_T G fun t3 => ?_
  repeat' wtm_at "c"
  refine record_T G fun fx fd fk => ?_
  repeat' wtm_at "c"
  refine T.part (l' := (fx, instObj 59 fd) :: (fd, entO fk (.ref ua) (.ref b1) (.int (Builtin.bitAnd (p0.2 : Nat) 4095) t3) .none) :: (b1, lst (lv.take 2) 0) :: (ua, lst [.str (Str.ofString "fig") _, .str (Str.ofString "plum") _, .str (Str.ofString "Fig") _] 0) :: (267, tabObj tb) :: (c.L + 1 + 1 + 1 + 1 + 1, cellO none) :: (c.L + 1 + 1 + 1 + 1, cellO none) :: base) (by wtm_at "sub") ?_
  show T c (lawM o1 (some (.ref rl)) o2 (some (.ref la)) (some lt) (some (.ref fx)) o5 o6) _ _ _ _
  refine T.global G (g_record _) rfl rfl (by kernel_rfl) (by kernel_rfl) ?_
  refine T.cw G (by kernel_rfl) ?_
  refine T.scons ?_
  refine T.list (by kernel_rfl) ?_
  repeat' wtm_at "c"
  refine ⟨by show 3 ≤ _; decide, fun ub => ?_⟩
  repeat' wtm_at "c"
  refine T.slice (T.psome ?_)
  repeat' wtm_at "c"
  refine T.pnone (T.pnone ?_)
  intro s2
  refine T.sub_slice (l := la) [.ref s2, .ref la] (by wtm_at "mem") (.head _) (.int _ _) .none .none (by decide) (by unfold sizeLine; omega) (by kernel_rfl) fun b2 => ?_
  rw [show (slicePick lv.toArray (some 2) none none).toList = lv.drop 2 from pick_from lv 2]
  repeat' wtm_at "c"
  refine record_T G fun gx gd gk => ?_
  repeat' wtm_at "c"
  show T c (lawM o1 (some (.ref rl)) o2 (some (.ref la)) (some lt) (some (.ref fx)) (some (.ref gx)) o6) _ _ _ _
  refine T.global G (g_merge _) rfl rfl (by kernel_rfl) (by kernel_rfl) ?_
  refine T.cw G (by kernel_rfl) ?_
  repeat' wtm_at "c"
  refine merge_T G (x1 := fx) (d1 := fd) (x2 := gx) (d2 := gd) (u1 := ua) (u2 := ub) (r1 := b1) (r2 := b2) (by wtm_at "mem") (by wtm_at "mem") (by wtm_at "mem") (by wtm_at "mem") (by wtm_at "mem") (by wtm_at "mem") (by wtm_at "mem") (by wtm_at "mem") (by rw [List.length_take, List.length_drop]; unfold sizeLine; omega) (late_plain hlt).1 rfl (late_plain hlt).2 fun bx bd bk bu br be => ?_
  rw [List.take_append_drop]
  refine' T.store_c (by kernel_rfl) (by kernel_rfl) (by with_unfolding_all rfl) ?u ?_
  case u => wtm_at "up"
  repeat' wtm_at "c"
  obtain ⟨td, hdl⟩ := late_due (t3 := t3) hmd0 hmd1 hlt
  rw [hdl]
  refine T.part (l' := (267, tabObj tb) :: (bx, instObj 59 bd) :: (bd, entO bk (.ref bu) (.ref br) (.int (dueD ms (ns.sum.fmod 3).toNat : Nat) td) .none) :: (bu, lst [.str (Str.ofString "fig") _, .str (Str.ofString "plum") _] be) :: (br, lst lv 0) :: (c.L + 1 + 1 + 1 + 1 + 1, cellO none) :: (c.L + 1 + 1 + 1 + 1, cellO (some (.ref bx))) :: base) (by wtm_at "sub") ?_
  refine T.global G (g_record _) rfl rfl (by kernel_rfl) (by kernel_rfl) ?_
  refine T.cw G (by kernel_rfl) ?_
  refine T.scons ?_
  refine T.list (by kernel_rfl) ?_
  repeat' wtm_at "c"
  refine ⟨by show 1 ≤ _; decide, fun wu => ?_⟩
  repeat' wtm_at "c"
  refine record_T G fun wx wd wk => ?_
  refine' T.store_c (by kernel_rfl) (by kernel_rfl) (by with_unfolding_all rfl) ?u ?_
  case u => wtm_at "up"
  repeat wtm_at "un"
  show T c _ _ (execs (lawB 11) _) _ _
  refine T.part (l' := (267, tabObj tb) :: (wx, instObj 59 wd) :: (wd, entO wk (.ref wu) (.ref la) .none .none) :: (bx, instObj 59 bd) :: (bd, entO bk (.ref bu) (.ref br) (.int (dueD ms (ns.sum.fmod 3).toNat : Nat) td) .none) :: (bu, lst [.str (Str.ofString "fig") _, .str (Str.ofString "plum") _] be) :: (br, lst lv 0) :: (c.L + 1 + 1 + 1 + 1 + 1, cellO (some (.ref wx))) :: (c.L + 1 + 1 + 1 + 1, cellO (some (.ref bx))) :: base) (by wtm_at "sub") ?_
  refine T.mono (law10 G H V hT) fun _ _ _ q => ?_
  repeat wtm_at "un"
  exact q
end
-- F23
theorem five_perm {a t x y : Addr × Obj} {new b : Led} : (t :: x :: y :: a :: (new ++ b)).Perm (a :: t :: (new ++ (x :: y :: b))) := by
  classical
  rw [List.perm_iff_count]
  intro z
  simp only [List.count_cons, List.count_append, List.count_nil]
  omega
theorem law_perm {t x1 x2 x3 x4 x5 p b d r : Addr × Obj} {g : Led} : (t :: x5 :: x4 :: p :: x3 :: x2 :: x1 :: b :: d :: r :: g).Perm (p :: b :: d :: (g ++ [r, x5, x4, x3, x2, x1, t])) := by
  classical
  rw [List.perm_iff_count]
  intro z
  simp only [List.count_cons, List.count_append, List.count_nil]
  omega
structure LU (L : Addr) (ps : List Nat) (ms : List (Nat × Nat)) (ns : List Int) (rl pl ml pa : Addr) (rv us ws pv : List Value) (e1 e2 e3 e4 : Nat) (l : Led) : Prop where
  par : (L + 1, cellO (some (.ref pl))) ∈ l
  mod : (L + 1 + 1, cellO (some (.ref ml))) ∈ l
  pat : (L + 1 + 1 + 1, cellO (some (.ref pa))) ∈ l
  rl : (rl, lst rv e1) ∈ l
  rv : IntsAre rv ns
  pl : (pl, lst us e2) ∈ l
  us : IntsAre us (nat2 ps)
  ml : (ml, lst ws e3) ∈ l
  ws : Pairs l ws ms
  pa : (pa, lst pv e4) ∈ l
  pv : StrsAre pv ((List.range ps.length).map (pathOf ps))
section
variable {c : Cx} {m : Loc} {led : Led} {X : Value → Loc → Led → Prop} {Q : Value → Loc → Led → Prop} {env : Env}
theorem law5 {n : Nat} (G : Gd c (n + 7)) {ps : List Nat} {ms : List (Nat × Nat)} {ns : List Int} (H : TreeOk ps ms) {rl pl ml pa : Addr} {rv us ws pv : List Value} {e1 e2 e3 e4 : Nat} {tb : Array Value} {base : Led} (U : LU c.L ps ms ns rl pl ml pa rv us ws pv e1 e2 e3 e4 base) (hT : LamTab lamPos lamQual tb base) {cdv : Value} {o1 o2 o3 o4 o5 o6 : Option Value} :
    T c (lawM o1 (some (.ref rl)) o2 none o3 o4 o5 o6) ((267, tabObj tb) :: (c.L + 1 + 1 + 1 + 1 + 1, cellO none) :: (c.L + 1 + 1 + 1 + 1, cellO none) :: base) (execs (lawB 5) (lawE c.L cdv)) (fun fl _ l => lawQ fl l) NoX := by
  obtain ⟨hpar, hmod, hpat, hrl, hrv, hpl, hus, hml, hws, hpa, hpv⟩ := id U
  have hmhi := H.mhi
  have hhi := H.hi
  have hwl := hws.1
  refine T.execs_of rfl ?_
  refine T.execs_cons ?_
  refine T.assign_comp (cl := [(Str.ofString "paths", c.L + 1 + 1 + 1)]) (by kernel_rfl) (by kernel_rfl) (by kernel_rfl) (by kernel_rfl) (by kernel_rfl) (by with_unfolding_all rfl) (by kernel_rfl) ?_
  repeat' wtm_at "c"
  refine T.itA_list (x := ml) (vs := ws) (n := e3) G.hdl (fun p hp => ?_) fun I oI S W hS => ?_
  · rw [List.mem_singleton.mp hp]; exact .inl (by wtm_at "mem2")
  refine TK.loop W hS G 0 (fun _ => rfl) (fun c'' j m₁ vs l₁ => ∃ o1 o2 tb1 new, m₁ = [(Str.ofString ".0", none), (Str.ofString "node", o1), (Str.ofString "mode", o2)] ∧ LamTab lamPos lamQual tb1 (new ++ base) ∧ RulesAre (new ++ base) vs (rulesOf ps (ms.take j)) ∧ l₁ = (267, tabObj tb1) :: (new ++ ((c.L + 1 + 1 + 1 + 1 + 1, cellO none) :: (c.L + 1 + 1 + 1 + 1, cellO none) :: base))) [(Str.ofString ".0", none), (Str.ofString "node", none), (Str.ofString "mode", none)] (lookL_none rfl) ?_ ?_ ?_ ?_
  · rintro c'' j m₁ vs l₁ ⟨_, _, _, _, _, _, _, rfl⟩ p hp
    rw [List.mem_singleton.mp hp]; exact .inl (by wtm_at "mem2")
  · intro c'' _ _ _
    exact ⟨none, none, tb, [], rfl, hT, RulesAre.nil, rfl⟩
  · rintro c'' j v o acc vs m₁ l₁ hcw2 hA2 G'' hst hj hvj ⟨o1, o2, tb1, new, rfl, hLT1, hR1, rfl⟩
    obtain ⟨⟨nd, md⟩, y, t10, t11, hpj, rfl, hy⟩ := hws.at hvj
    have hnd : nd < ps.length := H.nodes _ (List.mem_of_getElem? hpj)
    obtain ⟨tpk, hpk⟩ := range_at hpv hnd
    refine T.asTup G''.hdl (vs := [.int (nd : Nat) t10, .int (md : Nat) t11]) (fun p hp => ?_) rfl rfl rfl ?_
    · rw [List.mem_singleton.mp hp]; exact .inl (by wtm_at "mem2")
    refine T.inOrder (T.asName ?_)
    repeat' wtm_at "c"
    refine T.inOrder (T.asName ?_)
    repeat' wtm_at "c"
    refine T.inOrder0 ?_
    refine T.tests_nil ?_
    rw [if_pos rfl]
    have hvl := hR1.1
    unfold rulesOf at hvl
    rw [List.length_map, List.length_take] at hvl
    repeat' wtm_at "c"
    refine T.global G'' (g_rule _) rfl rfl (by kernel_rfl) (by kernel_rfl) ?_
    refine T.cw G'' (by kernel_rfl) ?_
    repeat' wtm_at "c"
    refine T.itemN (l := pa) (vs := pv) (n := e4) (by wtm_at "mem2") (by omega) hpk rfl ?_
    repeat' wtm_at "c"
    refine T.global G'' (g_verdict _) rfl rfl (by kernel_rfl) (by kernel_rfl) ?_
    refine T.cw G'' (by kernel_rfl) ?_
    repeat' wtm_at "c"
    refine verdict_T G'' fun t12 => ?_
    rw [verd_eq]
    repeat' wtm_at "c"
    refine T.perm (led' := (267, tabObj tb1) :: (I, o) :: (acc, lst vs vs.length) :: (new ++ ((c.L + 1 + 1 + 1 + 1 + 1, cellO none) :: (c.L + 1 + 1 + 1 + 1, cellO none) :: base))) (by wtm_at "perm") ?_
    refine rule_T G'' (base := new ++ base) (fun z hz => ?_) (by have := pathOf_len ps nd; omega) hLT1 fun x2 tb2 new2 hLT2 hR2 => ?_
    · rcases List.mem_append.mp hz with hz | hz
      · exact .tail _ (.tail _ (List.mem_append_left _ hz))
      · exact .tail _ (.tail _ (List.mem_append_right _ (.tail _ (.tail _ hz))))
    refine ⟨by unfold sizeLine; omega, _, rule_perm, _, _, tb2, new2 ++ new, rfl, by rw [List.append_assoc]; exact hLT2, ?_, rfl⟩
    have : rulesOf ps (ms.take (j + 1)) = rulesOf ps (ms.take j) ++ [(pathOf ps nd, vN md)] := by
      unfold rulesOf
      rw [take_snoc hpj, List.map_append]; rfl
    rw [this, List.append_assoc]
    exact (hR1.mono fun z hz => List.mem_append_right _ hz).append (RulesAre.one hR2)
  rintro c'' la m₁ lv l₁ ⟨_, _, tb1, new, _, hLT1, hR1, rfl⟩
  rw [hws.1, List.take_length] at hR1
  show T c (lawM o1 (some (.ref rl)) o2 (some (.ref la)) o3 o4 o5 o6) _ _ _ _
  refine T.perm (led' := (267, tabObj tb1) :: (c.L + 1 + 1 + 1 + 1 + 1, cellO none) :: (c.L + 1 + 1 + 1 + 1, cellO none) :: (la, lst lv lv.length) :: (new ++ base)) five_perm ?_
  show T c _ _ (execs (lawB 6) _) _ _
  have hin : ∀ z, z ∈ base → z ∈ (la, lst lv lv.length) :: (new ++ base) := fun z hz => .tail _ (List.mem_append_right _ hz)
  exact law6 G H ⟨hin _ hpar, hin _ hmod, hin _ hpat, hin _ hrl, hrv, hin _ hpl, hus, hin _ hml, hws.mono hin, hin _ hpa, hpv, .head _, hR1.mono fun z hz => .tail _ hz⟩ (hLT1.mono fun z hz => .tail _ hz)
theorem law0 {n : Nat} (G : Gd c (n + 7)) {sl : Addr} {vs : List Value} {ns : List Int} (hsl : c.h0.IsList sl vs.toArray) (hi : IntsAre vs ns) (hlen : ns.length ≤ 63) {cdv : Value} :
    T c (lawM (some (.ref sl)) none none none none none none none) [(c.L + 1 + 1 + 1 + 1 + 1, cellO none), (c.L + 1 + 1 + 1 + 1, cellO none), (c.L + 1 + 1 + 1, cellO none), (c.L + 1 + 1, cellO none), (c.L + 1, cellO none), (267, tabObj #[])] (execs (lawB 0) (lawE c.L cdv)) (fun fl _ l => lawQ fl l) NoX := by
  have hvl : vs.length = ns.length := hi.length
  have hslz : sizeLine = 16777216 := rfl
  refine T.execs_of rfl ?_
  refine T.execs_cons ?_
  refine T.assign_comp (cl := []) (by kernel_rfl) (by kernel_rfl) (by kernel_rfl) (by kernel_rfl) (by kernel_rfl) (by with_unfolding_all rfl) (by kernel_rfl) ?_
  repeat' wtm_at "c"
  refine T.slice (T.pnone (T.psome ?_))
  repeat' wtm_at "c"
  refine T.pnone ?_
  intro s1
  refine T.sub_slice0 (l := sl) (vs := vs) [.ref s1, .ref sl] hsl (.head _) .none (.int _ _) .none (by decide) (by omega) (by kernel_rfl) fun b1 => ?_
  rw [show (slicePick vs.toArray none (some 63) none).toList = vs.take 63 from pick_upto vs 63]
  rw [List.take_of_length_le (by omega)]
  repeat' wtm_at "c"
  refine T.part (l' := [(b1, lst vs 0), (c.L + 1 + 1 + 1 + 1 + 1, cellO none), (c.L + 1 + 1 + 1 + 1, cellO none), (c.L + 1 + 1 + 1, cellO none), (c.L + 1 + 1, cellO none), (c.L + 1, cellO none), (267, tabObj #[])]) (by wtm_at "sub") ?_
  refine T.itA_list (x := b1) (vs := vs) (n := 0) G.hdl (fun p hp => ?_) fun I oI S W hS => ?_
  · rw [List.mem_singleton.mp hp]; exact .inl (by wtm_at "mem2")
  refine TK.loop W hS G 0 (fun _ => rfl) (fun c'' i m₁ us l₁ => ∃ o1, m₁ = [(Str.ofString ".0", none), (Str.ofString "number", o1)] ∧ l₁ = [(b1, lst vs 0), (c.L + 1 + 1 + 1 + 1 + 1, cellO none), (c.L + 1 + 1 + 1 + 1, cellO none), (c.L + 1 + 1 + 1, cellO none), (c.L + 1 + 1, cellO none), (c.L + 1, cellO none), (267, tabObj #[])] ∧ IntsAre us ((ns.take i).map fun x => x.fmod 1000000)) [(Str.ofString ".0", none), (Str.ofString "number", none)] (lookL_none rfl) ?_ ?_ ?_ ?_
  rotate_left
  · intro c'' _ _ _
    exact ⟨none, rfl, rfl, .nil⟩
  · rintro c'' i v o acc us m₁ l₁ hcw2 hA2 G'' hst hi2 hv ⟨o1, rfl, rfl, hus⟩
    obtain ⟨x, tx, rfl, hx⟩ := hi.at i v hv
    refine T.asName ?_
    repeat' wtm_at "c"
    refine T.tests_nil ?_
    rw [if_pos rfl]
    repeat' wtm_at "c"
    have hul := hus.length
    rw [List.length_map, List.length_take] at hul
    refine ⟨by omega, _, .refl _, _, rfl, rfl, ?_⟩
    rw [take_snoc hx, List.map_append]
    exact hus.append (.cons _ _ .nil)
  · rintro c'' rl m₁ rv _ ⟨_, _, hll, hrv⟩
    rw [hll]
    rw [hvl, List.take_length] at hrv
    have hnl : (ns.map fun x => x.fmod 1000000).length ≤ 63 := by rw [List.length_map]; exact hlen
    generalize (ns.map fun x => x.fmod 1000000) = ns' at hrv hnl
    refine T.part (l' := [(rl, lst rv rv.length), (c.L + 1 + 1 + 1 + 1 + 1, cellO none), (c.L + 1 + 1 + 1 + 1, cellO none), (c.L + 1 + 1 + 1, cellO none), (c.L + 1 + 1, cellO none), (c.L + 1, cellO none), (267, tabObj #[])]) (by wtm_at "sub") ?_
    generalize rv.length = er
    show T c (lawM (some (.ref sl)) (some (.ref rl)) none none none none none none) _ _ _ _
    repeat' wtm_at "c"
    refine T.global G (g_tree _) rfl rfl (by kernel_rfl) (by kernel_rfl) ?_
    refine T.cw G (by kernel_rfl) ?_
    repeat' wtm_at "c"
    refine tree_T G (.head _) hrv hnl fun tp pl ml us ws e1 e2 ps ms g H hus hws => ?_
    repeat' wtm_at "c"
    show T c (lawM (some (.ref sl)) (some (.ref rl)) (some (.ref tp)) none none none none none) _ _ _ _
    refine T.titem (l := tp) (v := .ref pl) (.head _) (by decide) (by decide) rfl (by kernel_rfl) ?_
    refine' T.store_c (by kernel_rfl) (by kernel_rfl) (by with_unfolding_all rfl) ?u ?_
    case u => wtm_at "up2"
    repeat' wtm_at "c"
    refine T.titem (l := tp) (v := .ref ml) (.head _) (by decide) (by decide) rfl (by kernel_rfl) ?_
    refine' T.store_c (by kernel_rfl) (by kernel_rfl) (by with_unfolding_all rfl) ?u ?_
    case u => wtm_at "up2"
    repeat' wtm_at "c"
    refine T.global G (g_paths _) rfl rfl (by kernel_rfl) (by kernel_rfl) ?_
    refine T.cw G (by kernel_rfl) ?_
    repeat' wtm_at "c"
    have hll := ints_len hus
    have hhi := H.hi
    refine paths_T G H.tree hhi (.tail _ (.head _)) hll (fun i hi => ints_at hus hi) fun pa pv e4 hpv => ?_
    refine' T.store_c (by kernel_rfl) (by kernel_rfl) (by with_unfolding_all rfl) ?u ?_
    case u => wtm_at "up2"
    repeat wtm_at "un"
    show T c _ _ (execs (lawB 5) _) _ _
    refine T.part (l' := (267, tabObj #[]) :: (c.L + 1 + 1 + 1 + 1 + 1, cellO none) :: (c.L + 1 + 1 + 1 + 1, cellO none) :: (pa, lst pv e4) :: (c.L + 1 + 1 + 1, cellO (some (.ref pa))) :: (c.L + 1 + 1, cellO (some (.ref ml))) :: (c.L + 1, cellO (some (.ref pl))) :: (pl, lst us e1) :: (ml, lst ws e2) :: (rl, lst rv er) :: g) ?_ ?_
    · exact ⟨_, law_perm, .cons_cons _ (.cons _ (.refl _))⟩
    · refine T.mono (law5 G H ⟨by wtm_at "mem", by wtm_at "mem", by wtm_at "mem", by wtm_at "mem", hrv, by wtm_at "mem", hus, by wtm_at "mem", hws.mono fun z hz => by wtm_at "mem2", by wtm_at "mem", hpv⟩ (.inl rfl)) fun _ _ _ q => ?_
      repeat wtm_at "un"
      exact q
  · rintro c'' i m₁ us l₁ ⟨_, _, rfl, _⟩ p hp
    rw [List.mem_singleton.mp hp]; exact .inl (.head _)
end
-- F24
/-- the first call, from the caller's own state -/
theorem top_def {w : World} {s : Shared} {led : Led} {P : Value → Led → Prop} {n : Nat} {name qual : Str} {params : Arguments} {body : List Stmt} {scope : Scope} {dV kV doc pm cdv ct oc : Value} {an od : Option Addr} {osl : Array (Option Value)} {f : Addr} {args : List Value} {binds : List (Str × Value)} (k : Nat) (m₀ : Loc) (h0 : Heap)
    (hsz : h0.objs.size = s.heap.objs.size) (hsub : ∀ b o, h0.get? b = some o → s.heap.get? b = some o) (hled : ∀ p ∈ led, s.heap.get? p.1 = some p.2 ∧ h0.get? p.1 = none) (nd : (led.map (·.1)).Nodup)
    (KX : (kk.heap_1 w.params).In h0) (lim : h0.NoLimit) (g : ∃ mg, h0.Ns mainGlobals mg) (hb : ∃ mb, h0.Ns builtinsNs mb ∧ ∀ x : Str, x ≠ "__name__" → mb x = bootBuiltins x) (bm : BM h0) (hn : n < 300)
    (ho : (kk.heap_1 w.params).lookup f = some ⟨oc, od, .func (fnOf name qual params body scope dV kV doc pm an cdv ct), osl⟩) (hcd : codeIn (kk.heap_1 w.params) cdv qual = true)
    (hbind : bindArgs (fnOf name qual params body scope dV kV doc pm an cdv ct) ⟨args, []⟩ = Pure.pure binds)
    (hpc : ∀ h, pushCells h scope.names = Mine.pushN k h) (hm : ∀ y, lookL y m₀ = none) (hco : scope.isCoroutine = false) (hgen : scope.isGenerator = false) (hk : scope.kind = .function)
    (h : ∀ (c' : Cx) (A' : Around), c'.w = w → c'.h0 = h0 → Gd c' n → Lay (c'.und A') (envD qual scope c'.L f cdv []) (fun m₁ l₁ => T c' m₁ l₁ (execs body (envD qual scope c'.L f cdv [])) (fun fl _ l' => P (match fl with | .ret v => v | _ => .none) l') NoX) binds m₀ (cellLed k (c'.L + 1) led)) :
    wpAny (model pw w) callerA (call (.ref f) args) (fun v s' => ∃ l', P v l' ∧ (∀ p ∈ l', s'.heap.get? p.1 = some p.2) ∧ (∀ b o, h0.get? b = some o → s'.heap.get? b = some o) ∧ s'.os = s.os ∧ s'.gens = s.gens) (fun _ _ => False) s := by
  have hX : (kk.heap_1 w.params).In s.heap := Frag.In.keeps KX hsub
  refine wpAny_call (codeAny_call_function (fd := fnOf name qual params body scope dV kV doc pm an cdv ct) (body := body) (by decide) (hX _ _ ho) rfl hco hgen rfl (codeRec_of hX hcd) ?_)
  rw [hbind]
  refine wpAny_pure ?_
  simp only [newFunctionEnv, Option.isSome_none, Bool.false_eq_true, if_false]
  refine wpAny_bind (wpAny_alloc ?_)
  refine wpAny_bind (wpAny_layCells _ (fun name kind cells => by cases hkc : kind == NameKind.cell <;> simp) _ _ _ _ ?_)
  dsimp only
  rw [hpc, Heap.size_push]
  generalize hc2 : (⟨w, callerA.deeper (envD qual scope s.heap.objs.size f cdv []), h0, s.heap.objs.size, s, []⟩ : Cx) = c₂
  have hw : c₂.w = w := by rw [← hc2]
  have hL : c₂.L = s.heap.objs.size := by rw [← hc2]
  have hA₂ : c₂.A = callerA.deeper (envD qual scope s.heap.objs.size f cdv []) := by rw [← hc2]
  have hsg : c₂.sg = s := by rw [← hc2]
  have hM : c₂.M = model pw w := by rw [← hc2]
  have hh0 : c₂.h0 = h0 := by rw [← hc2]
  have G₂ : Gd c₂ n := by
    rw [← hc2]
    refine ⟨KX, lim, g, hb, ?_, ?_, rfl, bm, ⟨[envD qual scope s.heap.objs.size f cdv []], rfl, fun env he => ?_⟩⟩
    · show 302 + n < 1000; omega
    · show 7 + 20 * n < 9900; omega
    · rw [List.mem_singleton.mp he]
      exact ⟨(by show scope.kind ≠ _; rw [hk]; intro q; cases q), _, rfl, .head _⟩
  have hh := h c₂ callerA.in1 hw hh0 G₂
  rw [hL] at hh
  have R₁ : Rep c₂ m₀ led (s.heap.push { cls := .type "frame", data := .dict #[] }) := by
    rw [← hc2]
    refine ⟨⟨?_, fun b o e => Heap.get?_push_of_some _ (hsub b o e), Nat.le_of_eq hsz⟩, fun p hp => ⟨Heap.get?_push_of_some _ (hled p hp).1, Nat.ne_of_lt (Heap.lt_size (hled p hp).1), (hled p hp).2⟩, nd, fun p hp => by cases hp⟩
    have : (fun y => lookL y m₀) = fun _ => none := funext hm
    rw [this]; exact Heap.Ns.new s.heap (.type "frame")
  have R₂ := R₁.pushN (hp := s.heap) k
  rw [Heap.size_push] at R₂
  have R₃ : Rep (c₂.und callerA.in1) m₀ (cellLed k (s.heap.objs.size + 1) led) (Mine.pushN k (s.heap.push { cls := .type "frame", data := .dict #[] })) := ⟨R₂.fr, R₂.news, R₂.nd, R₂.outs⟩
  have hM1 : (c₂.und callerA.in1).M = model pw w := by rw [← hc2]
  refine wpAny_bind ?_
  have run : ∀ (fF : Str × Value → PUnit → Sem (ForInStep PUnit)) (hf : ∀ n v u, fF (n, v) u = (do storeName (envD qual scope s.heap.objs.size f cdv []) n v; Pure.pure (.yield ⟨⟩))), wpAny (model pw w) callerA.in1 (forIn binds ⟨⟩ fF)
      (fun _ s' => ∃ m' l' h' tk', s' = c₂.s h' tk' ∧ Rep c₂ m' l' h' ∧ T c₂ m' l' (execs body (envD qual scope s.heap.objs.size f cdv [])) (fun fl _ l' => P (match fl with | .ret v => v | _ => .none) l') NoX) (fun _ _ => False) (c₂.s (Mine.pushN k (s.heap.push { cls := .type "frame", data := .dict #[] })) s.toks) := fun fF hf => by
    have r := Lay.run (c := c₂.und callerA.in1) (E := fun e s' => False) (env := envD qual scope s.heap.objs.size f cdv []) fF hf binds m₀ _ _ s.toks (fun _ s' => ∃ m' l' h' tk', s' = c₂.s h' tk' ∧ Rep c₂ m' l' h' ∧ T c₂ m' l' (execs body (envD qual scope s.heap.objs.size f cdv [])) (fun fl _ l' => P (match fl with | .ret v => v | _ => .none) l') NoX) hh R₃
      (fun m' l' h' tk' R' q => ⟨m', l', h', tk', rfl, ⟨R'.fr, R'.news, R'.nd, R'.outs⟩, q⟩)
    rw [hM1] at r
    exact r
  have es : ({ s with heap := Mine.pushN k (s.heap.push { cls := .type "frame", data := .dict #[] }) } : Shared) = c₂.s (Mine.pushN k (s.heap.push { cls := .type "frame", data := .dict #[] })) s.toks := by
    show _ = ({ c₂.sg with heap := _, toks := _ } : Shared)
    rw [hsg]
  have fin := fun (fF : Str × Value → PUnit → Sem (ForInStep PUnit)) hf => es ▸ run fF hf
  refine wpAny_mono (fin _ (fun n v u => rfl)) (fun _ s' ⟨m', l', h', tk', e, R', q⟩ => ?_) fun _ _ x => x.elim
  subst e
  refine wpAny_pure ⟨G₂.lim.keeps R'.fr.keep, codeAny_func ?_⟩
  have qq := q.run h' tk' R'
  rw [hM, hA₂] at qq
  refine wpAny_mono qq (fun fl s'' ⟨m'', l'', h'', tk'', e, R'', q3⟩ => ?_) fun _ _ ⟨_, _, _, _, _, _, x⟩ => x.elim
  subst e
  refine ⟨l'', q3, fun p hp => (R''.news p hp).1, fun b o e => R''.fr.keep b o (by rw [hh0]; exact e), ?_, ?_⟩
  · show c₂.sg.os = _; rw [hsg]
  · show c₂.sg.gens = _; rw [hsg]
theorem law_top {w : World} {s : Shared} {mg mb : Str → Option Value} {sl : Addr} {vs : List Value} {ns : List Int} (KX : (kk.heap_1 w.params).In s.heap) (h267 : s.heap.get? 267 = some (tabObj #[])) (hg : s.heap.Ns mainGlobals mg) (hb : s.heap.Ns builtinsNs mb) (hbb : ∀ x : Str, x ≠ "__name__" → mb x = bootBuiltins x) (lim : s.heap.NoLimit)
    (hbm : ∃ bm ob, mg "__builtins__" = some (.ref bm) ∧ bm ≠ builtinsNs ∧ s.heap.get? bm = some ob ∧ ob.cls = .type "module" ∧ ob.dict = some builtinsNs ∧ ob.data = .plain)
    (hsl : s.heap.IsList sl vs.toArray) (hi : IntsAre vs ns) (hlen : ns.length ≤ 63) :
    wpAny (model pw w) callerA (call (.ref 327) [.ref sl]) (fun v s' => v = .bool true ∧ OldK s.heap s'.heap ∧ s'.os = s.os ∧ s'.gens = s.gens) (fun _ _ => False) s := by
  have hN : ∀ {a : Addr} {f : Str → Option Value}, a ≠ 267 → s.heap.Ns a f → (hideAll s.heap [267]).Ns a f := fun {a f} ha ⟨o, es, ep, e, r⟩ => ⟨o, es, ep, hideAll_get _ e (fun q => ha (List.mem_singleton.mp q)), r⟩
  have hcls : ∀ {a : Addr} {o : Obj}, s.heap.get? a = some o → o.cls ≠ .none → (hideAll s.heap [267]).get? a = some o := fun {a o} e hc => hideAll_get _ e fun q => by
    rw [List.mem_singleton.mp q, h267] at e; cases e; exact hc rfl
  have h1 : (kk.heap_1 w.params).lookup 267 = none := by kernel_rfl
  have hK0 : (kk.heap_1 w.params).In (hideAll s.heap [267]) := fun a o e => hideAll_get _ (KX a o e) fun q => by
    rw [List.mem_singleton.mp q, h1] at e; cases e
  refine wpAny_mono (top_def (n := 7) (led := [(267, tabObj #[])]) (P := fun v l => v = .bool true ∧ ∃ tb, (267, tabObj tb) ∈ l) (binds := [(Str.ofString "script", .ref sl)]) 5
    [(Str.ofString "script", none), (Str.ofString "row", none), (Str.ofString "tree", none), (Str.ofString "lines", none), (Str.ofString "late", none), (Str.ofString "first", none), (Str.ofString "second", none), (Str.ofString "due", none)] (hideAll s.heap [267])
    (hideAll_size _ _) (fun _ _ e => of_hideAll _ e) (fun p hp => by rw [List.mem_singleton.mp hp]; exact ⟨h267, hideAll_none _ (.head _)⟩) (by simp) hK0
    (let ⟨mc, a, b⟩ := lim; ⟨mc, hN (by decide) a, b⟩) ⟨mg, hN (by decide) hg⟩ ⟨mb, hN (by decide) hb, hbb⟩ (let ⟨bm, ob, a1, a2, a3, a4, a5, a6⟩ := hbm; ⟨mg, bm, ob, hN (by decide) hg, a1, a2, hcls a3 (by rw [a4]; intro q; cases q), a4, a5, a6⟩) (by decide) rfl (by kernel_rfl) (by kernel_rfl) (fun _ => rfl) (lookL_none rfl) rfl rfl rfl ?_) (fun v s' ⟨l', ⟨hv, tb, htb⟩, hl', hk, h3, h4⟩ => ⟨hv, ⟨fun b o e => ?_, fun b o e => ?_⟩, h3, h4⟩) fun _ _ x => x
  · intro c' A' hcw hh0 G'
    refine T.store (by kernel_rfl) (by with_unfolding_all rfl) (by kernel_rfl) ?_
    have hsl' : c'.h0.IsList sl vs.toArray := by
      rw [hh0]
      obtain ⟨o, e, hc, r⟩ := hsl
      exact ⟨o, hcls e (by rw [hc]; intro q; cases q), hc, r⟩
    refine T.mono (law0 (n := 0) G' hsl' hi hlen) fun fl m' l' q => ?_
    obtain ⟨rfl, tb, htb⟩ := q
    exact ⟨rfl, tb, htb⟩
  · by_cases hb : b = 267
    · subst hb
      rw [h267] at e; cases e
      have hc : ∃ o vs, (kk.heap_1 w.params).lookup 271 = some o ∧ o.cls = .type "code" ∧ o.data = .fields vs ∧ vs[11]? = some (.ref 267) := ⟨_, _, rfl, rfl, rfl, rfl⟩
      obtain ⟨o, vs, g1, g2, g3, g4⟩ := hc
      exact .inr (.inl ⟨⟨271, o, vs, KX _ _ g1, g2, g3, g4⟩, rfl, #[], tb, rfl, by rw [Array.empty_append]; exact hl' _ htb⟩)
    · exact .inl (hk b o (hideAll_get _ e fun q => hb (List.mem_singleton.mp q)))
  · by_cases hb : b = 267
    · subst hb; exact ⟨_, hl' _ htb⟩
    · exact ⟨o, hk b o (hideAll_get _ e fun q => hb (List.mem_singleton.mp q))⟩
-- F25
theorem hdef : defOf (view pw [47]) PySem.Challenge.rw_nq0253_01.row.name = some (dOf (st 47), []) := by kernel_rfl
theorem hprog : PySem.Challenge.rw_nq0253_01.row.prog.theDef PySem.Challenge.rw_nq0253_01.row.name = some ((dOf (st 47)).params, (dOf (st 47)).body, (dOf (st 47)).scope) := by kernel_rfl
theorem okAll : (chainsOk (view pw [47]) && opensWell PySem.Challenge.rw_nq0253_01.row.prog && (frees PySem.Challenge.rw_nq0253_01.row.toRowW && PySem.Challenge.rw_nq0253_01.row.within.isEmpty)) = true := by decide +kernel
theorem g_law (w : World) : nsIn (kk.heap_1 w.params) mainGlobals (Str.ofString "law") = some (some (.ref 327)) := by kernel_rfl
end Mine
theorem PySem.Challenge.cw_nq0253_01_holds : PySem.Challenge.rw_nq0253_01.Holds := by
  refine PySem.W.holds_law Mine.said fun _ => ?_
  refine PySem.W.holds_open (q := view Mine.pw [47]) (loose := Mine.looseN) (Xt := fun _ => true) (XP := fun _ _ => True) (Yf := Hook.obs Mine.topHook) (Ya := Hook.val Mine.topHook) (YP := Hook.says Mine.topHook) (N := 4606) (d := Mine.dOf (Mine.st 47)) (kwd := []) Mine.left1 (Hook.of Mine.topHook) (Hook.keeps Mine.topHook) (fun _ _ => trivial) (fun _ _ _ _ _ => trivial) Mine.hdef Mine.hprog rfl (fun s _ => recFacts_nil rfl) rfl (row_said Mine.said) Mine.okAll Mine.bare Mine.promised ?_
  intro w s₀ s₁ mg mb G Y fa o pm cd doc dV kV ho hd hcd hD hmg hg args vals as hpre hlay hrd hwl hlo
  have KX := km_in_of Y
  have hT := km_tabs_of Y
  refine Ground.open G ?_
  intro T B D TE TW
  wrow_args hpre hlay hrd hwl hlo
  have hfa : fa = 327 := by
    have := mg_of KX T.g (Mine.g_law w)
    have h2 : (Mine.dOf (Mine.st 47)).name = Str.ofString "law" := rfl
    rw [h2, this] at hmg
    cases hmg; rfl
  subst hfa
  rename_i ns hs hlay0 hL1 hr1 hl2 w4 w3 sl vs w0 hsl ra wl r0 hI hr hc1 hc2
  refine wpAny_mono (Mine.law_top KX (hT 267 (.head _)) T.g T.b T.builtins T.nolimit T.bmain hsl hI (by omega)) (fun v s' q => ?_) fun _ _ x => x.elim
  obtain ⟨rfl, hO, hos, hgs⟩ := q
  refine ⟨.inl ⟨_, .bool true, [], rfl, fun _ => rfl, ReadsW.bool true, ?_, fun _ => ⟨List.nodup_nil, fun _ hm => nomatch hm⟩⟩, hO, hos, .of_eq (hgs.trans hg)⟩
  wrow_post
