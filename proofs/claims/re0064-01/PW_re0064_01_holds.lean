import PyProof.Rows.All
import Wide.All
import OpenK.AllK
import Wide.FinOn
import PySem.Challenge.RW_re0064_01
open PySem PySem.W PyProof.Rows
set_option Elab.async false
set_option maxRecDepth 100000
section
open PySem PySem.W PyProof.Rows PySem.Calls
set_option maxRecDepth 100000
set_option maxHeartbeats 2000000
namespace Mine
/-! the state that a walk carries: the base (kept), the frame's names, the ledger of made objects -/
abbrev upd (m : Str → Option Value) (x : Str) (v : Value) : Str → Option Value := fun y => if y = x then some v else m y
theorem hideQ {α : Type} {M : Model} {A : Around} {t : Sem α} {Q : α → Shared → Prop} {E : Value → Shared → Prop} {s : Shared} (h : ∀ Q' : α → Shared → Prop, (∀ a s', Q a s' → Q' a s') → wpAny M A t Q' E s) : wpAny M A t Q E s := h Q fun _ _ x => x
theorem hideQ2 {α β : Type} {M : Model} {A : Around} {t : Sem α} {u : α → Sem β} {Q : β → Shared → Prop} {E E' : Value → Shared → Prop} {s : Shared} (h : ∀ Q' : β → Shared → Prop, (∀ a s', Q a s' → Q' a s') → wpAny M A t (fun a s₂ => wpAny M A (u a) Q' E' s₂) E s) : wpAny M A t (fun a s₂ => wpAny M A (u a) Q E' s₂) E s := h Q fun _ _ x => x
structure Bs where
  h : Heap
  g : Array GenState
  o : OsState
structure St (B : Bs) (L : Addr) (m : Str → Option Value) (zs : List (Addr × Obj)) (s : Shared) : Prop where
  F : Fr B.h L s.heap m
  N : News B.h L s.heap zs
  nd : (zs.map (·.1)).Nodup
  G : s.gens = B.g
  O : s.os = B.o
abbrev prog : Program := PySem.Challenge.pw_re0064_01
def defAt (i : Nat) : Arguments × List Stmt × Scope := match prog.main.body[i]? with
  | some (.FunctionDef _ a b _ _ _ sc _ _ _) => (a, b, sc)
  | _ => default
/-- a method of the one class -/
def methAt (j : Nat) : Arguments × List Stmt × Scope := match prog.main.body[2]? with
  | some (Stmt.ClassDef _ _ _ b _ _ _ _ _ _ _) => (match (b : List Stmt)[j]? with
    | some (.FunctionDef _ a b _ _ _ sc _ _ _) => (a, b, sc)
    | _ => default)
  | _ => default
abbrev lob (its : List Value) (n : Nat) : Obj := { cls := .type "list", data := .seq its.toArray n }
abbrev tob (its : List Value) : Obj := { cls := .type "tuple", data := .seq its.toArray }
/-- one object of the ledger is turned -/
inductive Up (a : Addr) (o o' : Obj) : List (Addr × Obj) → List (Addr × Obj) → Prop
  | head {r} : Up a o o' ((a, o) :: r) ((a, o') :: r)
  | tail {p r r'} : Up a o o' r r' → Up a o o' (p :: r) (p :: r')
theorem Up.app {a o o' r r'} (h : Up a o o' r r') : ∀ ys, Up a o o' (ys ++ r) (ys ++ r')
  | [] => h
  | _ :: ys => .tail (h.app ys)
theorem Up.mem {a o o' r r'} (h : Up a o o' r r') : (a, o) ∈ r := by
  induction h with
  | head => exact .head _
  | tail _ ih => exact .tail _ ih
theorem Up.mem' {a o o' r r'} (h : Up a o o' r r') : (a, o') ∈ r' := by
  induction h with
  | head => exact .head _
  | tail _ ih => exact .tail _ ih
theorem Up.keys {a o o' r r'} (h : Up a o o' r r') : r'.map (·.1) = r.map (·.1) := by
  induction h with
  | head => rfl
  | tail _ ih => simp only [List.map_cons, ih]
theorem Up.other {a o o' r r'} (h : Up a o o' r r') (nd : (r.map (·.1)).Nodup) : ∀ p ∈ r', p = (a, o') ∨ (p ∈ r ∧ p.1 ≠ a) := by
  induction h with
  | @head r =>
    intro p hp
    rcases List.mem_cons.mp hp with rfl | hp
    · exact .inl rfl
    · refine .inr ⟨.tail _ hp, fun e => ?_⟩
      rw [List.map_cons, List.nodup_cons] at nd
      exact nd.1 (List.mem_map.mpr ⟨p, hp, e⟩)
  | @tail q r r' hU ih =>
    intro p hp
    rw [List.map_cons, List.nodup_cons] at nd
    rcases List.mem_cons.mp hp with rfl | hp
    · refine .inr ⟨.head _, fun e => ?_⟩
      have := List.mem_map_of_mem (f := (·.1)) hU.mem
      rw [e] at nd
      exact nd.1 this
    · rcases ih nd.2 p hp with h | ⟨h1, h2⟩
      · exact .inl h
      · exact .inr ⟨.tail _ h1, h2⟩
section
variable {B : Bs} {L : Addr} {m : Str → Option Value} {zs : List (Addr × Obj)} {s : Shared}
theorem St.get (S : St B L m zs s) {a : Addr} {o : Obj} (h : (a, o) ∈ zs) : s.heap.get? a = some o := S.N.get h
theorem St.base (S : St B L m zs s) {a : Addr} {o : Obj} (h : B.h.get? a = some o) : s.heap.get? a = some o := S.F.keep a o h
theorem St.to (S : St B L m zs s) {s' : Shared} (hh : s'.heap = s.heap) (hg : s'.gens = s.gens) (ho : s'.os = s.os) : St B L m zs s' :=
  ⟨hh ▸ S.F, hh ▸ S.N, S.nd, hg.trans S.G, ho.trans S.O⟩
theorem St.tk (S : St B L m zs s) (t : Nat) : St B L m zs { s with toks := t } := ⟨S.F, S.N, S.nd, S.G, S.O⟩
theorem St.fresh (S : St B L m zs s) : ∀ p ∈ zs, p.1 ≠ s.heap.objs.size := fun p hp => Nat.ne_of_lt (Heap.lt_size (S.N p hp).1)
theorem St.alloc (S : St B L m zs s) (o : Obj) (t : Nat) (hf : o.isFreed = false := by rfl) : St B L m ((s.heap.objs.size, o) :: zs) { s with heap := s.heap.push o, toks := t } :=
  ⟨S.F.push o, S.N.push S.F o hf, by
    rw [List.map_cons, List.nodup_cons]
    refine ⟨fun h => ?_, S.nd⟩
    obtain ⟨p, hp, e⟩ := List.mem_map.mp h
    exact S.fresh p hp e, S.G, S.O⟩
theorem St.sub (S : St B L m zs s) {zs' : List (Addr × Obj)} (h : zs'.Sublist zs) : St B L m zs' s :=
  ⟨S.F, fun p hp => S.N p (h.subset hp), S.nd.sublist (h.map _), S.G, S.O⟩
theorem St.perm (S : St B L m zs s) {zs' : List (Addr × Obj)} (h : zs'.Perm zs) : St B L m zs' s :=
  ⟨S.F, fun p hp => S.N p (h.mem_iff.mp hp), ((h.map _).nodup_iff).mpr S.nd, S.G, S.O⟩
theorem St.down1 {p q : Addr × Obj} (S : St B L m (p :: q :: zs) s) : St B L m (q :: p :: zs) s := S.perm (List.perm_middle (l₁ := [q]))
theorem St.down2 {p q r : Addr × Obj} (S : St B L m (p :: q :: r :: zs) s) : St B L m (q :: r :: p :: zs) s := S.perm (List.perm_middle (l₁ := [q, r]))
theorem St.down3 {p q r t : Addr × Obj} (S : St B L m (p :: q :: r :: t :: zs) s) : St B L m (q :: r :: t :: p :: zs) s := S.perm (List.perm_middle (l₁ := [q, r, t]))
theorem St.drop1 {p : Addr × Obj} (S : St B L m (p :: zs) s) : St B L m zs s := S.sub (List.sublist_cons_self _ _)
theorem St.drop2 {p q : Addr × Obj} (S : St B L m (p :: q :: zs) s) : St B L m (p :: zs) s := S.sub (List.Sublist.cons_cons _ (List.sublist_cons_self _ _))
theorem St.set {h' : Heap} (S : St B L m zs s) {m' : Str → Option Value} (hn : h'.Ns L m') (hs : Heap.SameBut L s.heap h') (t : Nat) : St B L m' zs { s with heap := h', toks := t } :=
  ⟨S.F.set hn hs, S.N.set hs, S.nd, S.G, S.O⟩
theorem St.upd (S : St B L m zs s) {a : Addr} {o o' : Obj} {zs' : List (Addr × Obj)} {h' : Heap} (U : Up a o o' zs zs') (hs : Heap.SameBut a s.heap h') (ho : h'.get? a = some o') (t : Nat) :
    St B L m zs' { s with heap := h', toks := t } := by
  have ha := S.N (a, o) U.mem
  refine ⟨S.F.change hs ha.2.1 ha.2.2, fun p hp => ?_, by rw [U.keys]; exact S.nd, S.G, S.O⟩
  rcases U.other S.nd p hp with rfl | ⟨h1, h2⟩
  · exact ⟨ho, ha.2⟩
  · exact ⟨(hs.2 p.1 h2).trans (S.N p h1).1, (S.N p h1).2⟩
/-- everything that stood stands, and new things besides -/
def Grows (B : Bs) (s' : Shared) (ys : List (Addr × Obj)) : Prop :=
  (∀ b o, B.h.get? b = some o → s'.heap.get? b = some o) ∧ (∀ p ∈ ys, s'.heap.get? p.1 = some p.2 ∧ B.h.get? p.1 = none) ∧ (ys.map (·.1)).Nodup ∧ s'.gens = B.g ∧ s'.os = B.o
def Bs.of (s : Shared) : Bs := ⟨s.heap, s.gens, s.os⟩
def Bs.hid (s : Shared) (mu : List Addr) : Bs := ⟨hideAll s.heap mu, s.gens, s.os⟩
theorem St.grows (S : St B L m zs s) : Grows B s zs := ⟨S.F.keep, fun p hp => ⟨(S.N p hp).1, (S.N p hp).2.2⟩, S.nd, S.G, S.O⟩
theorem St.grow (S : St B L m zs s) {s' : Shared} {ys : List (Addr × Obj)} (g : Grows (Bs.of s) s' ys) : St B L m (ys ++ zs) s' := by
  obtain ⟨g1, g2, g3, g4, g5⟩ := g
  obtain ⟨oL, es, ep, hL, r⟩ := S.F.ns
  refine ⟨⟨⟨oL, es, ep, g1 _ _ hL, r⟩, fun b o e => g1 _ _ (S.F.keep b o e), S.F.above⟩, fun p hp => ?_, ?_, g4.trans S.G, g5.trans S.O⟩
  · rcases List.mem_append.mp hp with hp | hp
    · refine ⟨(g2 p hp).1, fun e => ?_, ?_⟩
      · have := (g2 p hp).2; rw [e] at this; exact nomatch (hL.symm.trans this)
      · cases q : B.h.get? p.1 with
        | none => rfl
        | some o => exact nomatch ((S.F.keep _ _ q).symm.trans (g2 p hp).2)
    · exact ⟨g1 _ _ (S.N p hp).1, (S.N p hp).2⟩
  · rw [List.map_append, List.nodup_append]
    refine ⟨g3, S.nd, fun a ha b hb e => ?_⟩
    obtain ⟨p, hp, rfl⟩ := List.mem_map.mp ha
    obtain ⟨q, hq, rfl⟩ := List.mem_map.mp hb
    have h1 := (g2 p hp).2
    rw [e] at h1
    exact nomatch ((S.N q hq).1.symm.trans h1)
/-- a call that has turned one object of the ledger -/
theorem St.growU (S : St B L m zs s) {s' : Shared} {ys zs' : List (Addr × Obj)} {a : Addr} {o o' : Obj} (g : Grows (Bs.hid s [a]) s' ((a, o') :: ys)) (U : Up a o o' zs zs') : St B L m (ys ++ zs') s' := by
  obtain ⟨g1, g2, g3, g4, g5⟩ := g
  obtain ⟨oL, es, ep, hL, r⟩ := S.F.ns
  have ha := S.N (a, o) U.mem
  have k1 : ∀ b o', b ≠ a → s.heap.get? b = some o' → s'.heap.get? b = some o' := fun b o' hb e => g1 b o' (hideAll_get [a] e (by simpa using hb))
  have new : ∀ p ∈ ys, s.heap.get? p.1 = none := fun p hp => by
    cases q : s.heap.get? p.1 with
    | none => rfl
    | some x =>
      have hpa : p.1 ≠ a := fun e => by
        rw [List.map_cons, List.nodup_cons] at g3
        exact g3.1 (List.mem_map.mpr ⟨p, hp, e⟩)
      exact nomatch ((hideAll_get [a] q (by simpa using hpa)).symm.trans (g2 p (.tail _ hp)).2)
  refine ⟨⟨⟨oL, es, ep, k1 _ _ (Ne.symm ha.2.1) hL, r⟩, fun b x e => k1 _ _ (fun z => ?_) (S.F.keep b x e), S.F.above⟩, fun p hp => ?_, ?_, g4.trans S.G, g5.trans S.O⟩
  · rw [z] at e; exact nomatch (e.symm.trans ha.2.2)
  · rcases List.mem_append.mp hp with hp | hp
    · have hn := new p hp
      refine ⟨(g2 p (.tail _ hp)).1, fun e => ?_, ?_⟩
      · rw [e] at hn; exact nomatch (hL.symm.trans hn)
      · cases q : B.h.get? p.1 with
        | none => rfl
        | some o => exact nomatch ((S.F.keep _ _ q).symm.trans hn)
    · rcases U.other S.nd p hp with rfl | ⟨h1, h2⟩
      · exact ⟨(g2 _ (.head _)).1, ha.2⟩
      · exact ⟨k1 _ _ h2 (S.N p h1).1, (S.N p h1).2⟩
  · rw [List.map_append, List.nodup_append, U.keys]
    rw [List.map_cons, List.nodup_cons] at g3
    refine ⟨g3.2, S.nd, fun b hb c hc e => ?_⟩
    obtain ⟨p, hp, rfl⟩ := List.mem_map.mp hb
    obtain ⟨q, hq, rfl⟩ := List.mem_map.mp hc
    have h1 := new p hp
    rw [e] at h1
    exact nomatch ((S.N q hq).1.symm.trans h1)
end
/-- what the text's top has laid: its globals, the built-ins, no limit set -/
structure Gl (mg : Str → Option Value) (h : Heap) : Prop where
  g : h.Ns mainGlobals mg
  b : ∃ mb, h.Ns builtinsNs mb ∧ ∀ x : Str, x ≠ "__name__" → mb x = bootBuiltins x
  lim : h.NoLimit
theorem Gl.keeps {mg : Str → Option Value} {h h' : Heap} (x : Gl mg h) (k : ∀ b o, h.get? b = some o → h'.get? b = some o) : Gl mg h' :=
  ⟨x.g.keeps k, let ⟨mb, b, e⟩ := x.b; ⟨mb, b.keeps k, e⟩, x.lim.keeps k⟩
/-- a def of the text at its address -/
abbrev Dfn := Arguments × List Stmt × Scope
def FnD (h : Heap) (f : Addr) (n q : Str) (d : Dfn) (dV kV : Value) : Prop :=
  ∃ o doc pm an cd ct, h.get? f = some o ∧ o.data = .func (fnOf n q d.1 d.2.1 d.2.2 dV kV doc pm an cd ct) ∧ h.CodeRec cd q
abbrev Fn (h : Heap) (f : Addr) (n : Str) (i : Nat) (dV kV : Value) : Prop := FnD h f n n (defAt i) dV kV
theorem FnD.keeps {h h' : Heap} {f n q d dV kV} (x : FnD h f n q d dV kV) (k : ∀ b o, h.get? b = some o → h'.get? b = some o) : FnD h' f n q d dV kV := by
  obtain ⟨o, doc, pm, an, cd, ct, h1, h2, c, oc, vs, t, rfl, h3, r⟩ := x
  exact ⟨o, doc, pm, an, _, ct, k _ _ h1, h2, c, oc, vs, t, rfl, k _ _ h3, r⟩
/-- room for k more frames -/
structure Rm (A : Around) (k : Nat) : Prop where
  hh : A.handled = none
  dp : A.depth + k < recursionLimit
  un : A.units + 4 * k < cLine
theorem Rm.le {A : Around} {k j : Nat} (x : Rm A k) (h : j ≤ k) : Rm A j := ⟨x.hh, by have := x.dp; (first | lia | omega), by have := x.un; (first | lia | omega)⟩
section
variable {w : World} {A : Around} {E : Value → Shared → Prop} {s : Shared} {B : Bs} {L a : Addr} {m mg : Str → Option Value} {zs : List (Addr × Obj)} {cn : Str} {cs : Scope} {ccd : Value} {cl : List (Str × Addr)}
/-! names -/
theorem nmL {x : Str} {pos : Pos} {v : Value} {Q : Value → Shared → Prop} (S : St B L m zs s) (hv : m x = some v) (h : Q v s)
    (hk : cs.kind = .function := by rfl) (hx : (envX cn cs L a ccd cl).kindOf x = some .local := by rfl) (hd : (x == ("__debug__" : Str)) = false := by decide) :
    wpAny (model prog w) A (eval (.Name x pos) (envX cn cs L a ccd cl)) Q E s := nameX_L S.F hv h hk hx hd
theorem nmC {x : Str} {pos : Pos} {v : Value} {c : Addr} {o : Obj} {Q : Value → Shared → Prop} (S : St B L m zs s) (hc : cl.lookup x = some c) (hm : (c, o) ∈ zs) (hd : o.data = .cell (some v)) (h : Q v s)
    (hk : cs.kind = .function := by rfl) (hx : (envX cn cs L a ccd cl).kindOf x = some .cell := by rfl) (hb : (x == ("__debug__" : Str)) = false := by decide) :
    wpAny (model prog w) A (eval (.Name x pos) (envX cn cs L a ccd cl)) Q E s := nameX_C S.N hc hm hd h hk hx hb
theorem nmG {x : Str} {pos : Pos} {v : Value} {Q : Value → Shared → Prop} (S : St B L m zs s) (GL : Gl mg B.h) (e : mg x = some v) (h : Q v s)
    (hk : cs.kind = .function := by rfl) (hx : (envX cn cs L a ccd cl).kindOf x = some .globalImplicit := by rfl) (hd : (x == ("__debug__" : Str)) = false := by decide) :
    wpAny (model prog w) A (eval (.Name x pos) (envX cn cs L a ccd cl)) Q E s :=
  Name_function_global hk hx (loadGlobal_global (env := envX cn cs L a ccd cl) (GL.g.keeps S.F.keep) e h) hd
theorem nmB {x : Str} {pos : Pos} {v : Value} {Q : Value → Shared → Prop} (S : St B L m zs s) (GL : Gl mg B.h) (e : mg x = none) (hv : bootBuiltins x = some v) (h : Q v s) (hn : x ≠ "__name__" := by decide)
    (hk : cs.kind = .function := by rfl) (hx : (envX cn cs L a ccd cl).kindOf x = some .globalImplicit := by rfl) (hd : (x == ("__debug__" : Str)) = false := by decide) :
    wpAny (model prog w) A (eval (.Name x pos) (envX cn cs L a ccd cl)) Q E s := by
  obtain ⟨mb, b, hb⟩ := GL.b
  exact Name_function_global hk hx (loadGlobal_builtin (env := envX cn cs L a ccd cl) (GL.g.keeps S.F.keep) e (b.keeps S.F.keep) ((hb x hn).trans hv) h) hd
/-! stores -/
theorem stL {x : Str} {v : Value} {Q : Unit → Shared → Prop} (S : St B L m zs s)
    (h : ∀ s', St B L (upd m x v) zs s' → Q () s')
    (hk : cs.kind = .function := by rfl) (hx : (envX cn cs L a ccd cl).kindOf x = some .local := by rfl) : wpAny (model prog w) A (storeName (envX cn cs L a ccd cl) x v) Q E s :=
  wpAny_storeName_local hx S.F.ns (fun h' hn hs => h _ (S.set hn hs _)) (by show (cs.kind == .class || (cs.kind == .module && L != mainGlobals)) = false; rw [hk]; rfl)
theorem stC {x : Str} {v : Value} {c : Addr} {o : Obj} {v₀ : Option Value} {Q : Unit → Shared → Prop} {g : Obj → List (Addr × Obj)} (S : St B L m zs s) (hc : cl.lookup x = some c) (U : ∀ o', Up c o o' zs (g o')) (hd : o.data = .cell v₀)
    (h : ∀ s' o', o'.data = .cell (some v) → St B L m (g o') s' → Q () s')
    (hk : cs.kind = .function := by rfl) (hx : (envX cn cs L a ccd cl).kindOf x = some .cell := by rfl) : wpAny (model prog w) A (storeName (envX cn cs L a ccd cl) x v) Q E s := by
  refine wpAny_storeName_cell hk hx hc ⟨o, S.get (U o).mem, hd⟩ fun h' hv hs => ?_
  obtain ⟨o', ho', hd'⟩ := hv
  exact h _ o' hd' (S.upd (U o') hs ho' s.toks)
/-! constants -/
theorem cI {i : Int} {k : Nat} {pos : Pos} {env : Env} {Q : Value → Shared → Prop} (S : St B L m zs s) (h : ∀ t s', St B L m zs s' → Q (.int i t) s') :
    wpAny (model prog w) A (eval (.Constant (.int i) k pos) env) Q E s := wpAny_Constant_int (h _ _ (S.tk _))
theorem cS {x : Str} {k : Nat} {pos : Pos} {env : Env} {Q : Value → Shared → Prop} (S : St B L m zs s) (h : ∀ t s', St B L m zs s' → Q (.str x t) s') :
    wpAny (model prog w) A (eval (.Constant (.str x) k pos) env) Q E s := Constant_str (h _ _ (S.tk _))
/-! ints -/
theorem iAdd {x y : Int} {t u : Tok} {Q : Value → Shared → Prop} (S : St B L m zs s) (h : ∀ t s', St B L m zs s' → Q (.int (x + y) t) s') : wpAny (model prog w) A (binaryOp .Add (.int x t) (.int y u)) Q E s := add_int (h _ _ (S.tk _))
theorem iSub {x y : Int} {t u : Tok} {Q : Value → Shared → Prop} (S : St B L m zs s) (h : ∀ t s', St B L m zs s' → Q (.int (x - y) t) s') : wpAny (model prog w) A (binaryOp .Sub (.int x t) (.int y u)) Q E s := PyProof.Rows.sub_int (h _ _ (S.tk _))
theorem iMul {x y : Int} {t u : Tok} {Q : Value → Shared → Prop} (S : St B L m zs s) (h : ∀ t s', St B L m zs s' → Q (.int (x * y) t) s') (hm : IntMulOk x y) : wpAny (model prog w) A (binaryOp .Mult (.int x t) (.int y u)) Q E s := mul_int (h _ _ (S.tk _)) hm
theorem iMod {x y : Int} {t u : Tok} {Q : Value → Shared → Prop} (S : St B L m zs s) (hy : y ≠ 0) (h : ∀ t s', St B L m zs s' → Q (.int (x.fmod y) t) s') : wpAny (model prog w) A (binaryOp .Mod (.int x t) (.int y u)) Q E s := mod_int' hy (h _ _ (S.tk _))
theorem iDiv {x y : Int} {t u : Tok} {Q : Value → Shared → Prop} (S : St B L m zs s) (hy : y ≠ 0) (h : ∀ t s', St B L m zs s' → Q (.int (x.fdiv y) t) s') (hp : Builtin.divisionGoesByPylong x y = false ∨ PySem.PylongRoom (model prog w) A s) :
    wpAny (model prog w) A (binaryOp .FloorDiv (.int x t) (.int y u)) Q E s := floordiv_int hy (h _ _ (S.tk _)) hp
theorem iNeg {x : Int} {t : Tok} {Q : Value → Shared → Prop} (S : St B L m zs s) (h : ∀ t s', St B L m zs s' → Q (.int (-x) t) s') : wpAny (model prog w) A (unaryOp .USub (.int x t)) Q E s := PyProof.Rows.neg_int (h _ _ (S.tk _))
/-! new lists and tuples -/
theorem nwL {vs : List Value} {Q : Value → Shared → Prop} (S : St B L m zs s) (h : ∀ l s', St B L m ((l, lob vs 0) :: zs) s' → Q (.ref l) s') (hsz : vs.length ≤ sizeLine := by size_fits) : wpAny (model prog w) A (newList vs) Q E s :=
  wpAny_newObj_type (h _ _ (S.alloc _ _)) (by show vs.toArray.size ≤ sizeLine; rw [List.size_toArray]; exact hsz)
theorem nwT {vs : List Value} {Q : Value → Shared → Prop} (S : St B L m zs s) (h : ∀ l s', St B L m ((l, tob vs) :: zs) s' → Q (.ref l) s') (hsz : vs.length ≤ sizeLine := by size_fits) : wpAny (model prog w) A (newTuple vs) Q E s :=
  wpAny_newObj_type (h _ _ (S.alloc _ _)) (by show vs.toArray.size ≤ sizeLine; rw [List.size_toArray]; exact hsz)
theorem apL {l : Addr} {its : List Value} {n : Nat} {x : Value} {zs' : List (Addr × Obj)} {Q : Value → Shared → Prop} (S : St B L m zs s) (U : Up l (lob its n) (lob (its ++ [x]) (n + 1)) zs zs')
    (h : ∀ s', St B L m zs' s' → Q .none s') (hsz : its.length ≤ sizeLine) : wpAny (model prog w) A (call (.builtin "list.append") [.ref l, x]) Q E s := by
  refine append_at (hsz := by rw [List.size_toArray]; exact hsz) (S.get U.mem) fun h' hs ho' => ?_
  exact h _ (S.upd U hs (by rw [ho', List.push_toArray]) s.toks)
end
end Mine
end
section
open PySem PySem.W PyProof.Rows PySem.Calls
set_option maxRecDepth 100000
set_option maxHeartbeats 2000000
namespace Mine
theorem hid_keeps {s : Shared} {mu : List Addr} {s' : Shared} (k : ∀ b o, s.heap.get? b = some o → s'.heap.get? b = some o) : ∀ b o, (Bs.hid s mu).h.get? b = some o → s'.heap.get? b = some o :=
  fun b o e => k b o (of_hideAll _ e)
section
variable {w : World} {A : Around} {E : Value → Shared → Prop} {s : Shared} {B : Bs} {L a : Addr} {m mg : Str → Option Value} {zs : List (Addr × Obj)} {cn : Str} {cs : Scope} {ccd : Value} {cl : List (Str × Addr)} {R : Result → Shared → Prop} {k : Nat}
/-- a call of a def of the text; mu: what the call may turn -/
theorem callDef {d : Dfn} {f : Addr} {n q : Str} {dV kV : Value} {args : Args} (binds : List (Str × Value)) (mu : List (Addr × Obj)) (hfn : FnD s.heap f n q d dV kV) (hlim : s.heap.NoLimit) (hroom : Rm A (k + 1))
    (hbind : ∀ doc pm an cd ct, BindsTo s (fnOf n q d.1 d.2.1 d.2.2 dV kV doc pm an cd ct) args binds)
    (hmu : ∀ p ∈ mu, s.heap.get? p.1 = some p.2) (hnd : (mu.map (·.1)).Nodup)
    (h : ∀ A' L cd s', Rm A' k → St (Bs.hid s (mu.map (·.1))) L (fun y => binds.reverse.lookup y) mu s' →
      wpAny (model prog w) A' (execs d.2.1 (envX q d.2.2 L f cd []))
        (fun fl s'' => R (.ok (.ret (match fl with | .ret v => v | _ => .none))) s'') (fun _ _ => False) s')
    (hloc : (binds.all fun y => decide (d.2.2.names.lookup y.1 = some .local)) = true := by rfl) (hcell : ∀ x ∈ d.2.2.names, x.2 ≠ .cell := by decide)
    (hco : d.2.2.isCoroutine = false := by rfl) (hgen : d.2.2.isGenerator = false := by rfl) (hk : d.2.2.kind = .function := by rfl) : codeAny (model prog w) A (.call (.ref f) args) R s := by
  obtain ⟨o, doc, pm, an, cd, ct, h1, h2, h3⟩ := hfn
  refine codeAny_call_def (fd := fnOf n q d.1 d.2.1 d.2.2 dV kV doc pm an cd ct) (body := d.2.1) (binds := binds) (by have := hroom.dp; (first | lia | omega)) h1 h2 hlim h3 rfl (hbind _ _ _ _ _) hcell (locs hloc) (fun h₁ hns hk₁ => ?_) hco hgen hk
  refine wpAny_mono (h _ s.heap.objs.size cd { s with heap := h₁, toks := s.toks + binds.length } ⟨hroom.hh, ?_, ?_⟩ ⟨⟨hns, hid_keeps (s' := { s with heap := h₁, toks := s.toks + binds.length }) hk₁, Nat.le_of_eq (hideAll_size _ _)⟩, fun p hp => ?_, hnd, rfl, rfl⟩) (fun _ _ x => x) fun _ _ x => x.elim
  · show A.depth + 1 + k < recursionLimit; have := hroom.dp; (first | lia | omega)
  · show A.units + 3 + 4 * k < cLine; have := hroom.un; (first | lia | omega)
  · exact ⟨hk₁ _ _ (hmu p hp), Nat.ne_of_lt (Heap.lt_size (hmu p hp)), hideAll_none _ (List.mem_map_of_mem hp)⟩
/-- a call that may turn nothing -/
theorem callDef0 {d : Dfn} {f : Addr} {n q : Str} {dV kV : Value} {args : Args} (binds : List (Str × Value)) (hfn : FnD s.heap f n q d dV kV) (hlim : s.heap.NoLimit) (hroom : Rm A (k + 1))
    (hbind : ∀ doc pm an cd ct, BindsTo s (fnOf n q d.1 d.2.1 d.2.2 dV kV doc pm an cd ct) args binds)
    (h : ∀ A' L cd s', Rm A' k → St (Bs.of s) L (fun y => binds.reverse.lookup y) [] s' →
      wpAny (model prog w) A' (execs d.2.1 (envX q d.2.2 L f cd []))
        (fun fl s'' => R (.ok (.ret (match fl with | .ret v => v | _ => .none))) s'') (fun _ _ => False) s')
    (hloc : (binds.all fun y => decide (d.2.2.names.lookup y.1 = some .local)) = true := by rfl) (hcell : ∀ x ∈ d.2.2.names, x.2 ≠ .cell := by decide)
    (hco : d.2.2.isCoroutine = false := by rfl) (hgen : d.2.2.isGenerator = false := by rfl) (hk : d.2.2.kind = .function := by rfl) : codeAny (model prog w) A (.call (.ref f) args) R s :=
  callDef binds [] hfn hlim hroom hbind (fun _ h => nomatch h) List.nodup_nil h hloc hcell hco hgen hk
theorem Bs.hid_nil (s : Shared) : Bs.hid s [] = Bs.of s := rfl
/-- what a call of a pure def tells -/
def Tells (w : World) (A : Around) (f : Value) (args : Args) (P : Value → List (Addr × Obj) → Prop) (s : Shared) : Prop :=
  codeAny (model prog w) A (.call f args) (fun r s' => ∃ v ys, r = .ok (.ret v) ∧ Grows (Bs.of s) s' ys ∧ P v ys) s
theorem callC {f : Value} {args : List Value} {kw : List (Str × Value)} {P : Value → List (Addr × Obj) → Prop} {Q : Value → Shared → Prop} (S : St B L m zs s) (hc : Tells w A f ⟨args, kw⟩ P s)
    (h : ∀ v ys s', P v ys → St B L m (ys ++ zs) s' → Q v s') : wpAny (model prog w) A (call f args kw) Q E s := by
  refine wpAny_call (codeAny_mono hc fun r s' hr => ?_)
  obtain ⟨v, ys, rfl, g, p⟩ := hr
  exact h v ys s' p (S.grow g)
/-! a call's node: a global def, plain arguments -/
theorem call1 {x : Str} {p pos : Pos} {e : Expr} {f : Addr} {n q : Str} {d : Dfn} {dV kV : Value} {env : Env} {Q : Value → Shared → Prop}
    (hfn : FnD B.h f n q d dV kV)
    (h : wpAny (model prog w) A (eval (.Name x p) env) (fun v s₁ => v = .ref f ∧ wpAny (model prog w) A (eval e env) (fun v1 s₂ => (∃ m zs, St B L m zs s₂) ∧ wpAny (model prog w) A (call (.ref f) [v1]) Q E s₂) E s₁) E s)
    (hs : starEach [e] env = [(false, eval e env)] := by rfl) : wpAny (model prog w) A (eval (.Call (.Name x p) [e] [] pos) env) Q E s := by
  obtain ⟨o, doc, pm, an, cd, ct, h1, h2, h3⟩ := hfn
  refine Call_Name1 (wpAny_mono h (fun v s₁ ⟨e1, h'⟩ => ?_) fun _ _ x => x) hs
  subst e1
  refine callWith_function (o := o) (fd := fnOf n q d.1 d.2.1 d.2.2 dV kV doc pm an cd ct) (evalArgs_plain (spliced_cons (wpAny_mono h' (fun v1 s₂ ⟨⟨m', zs', S'⟩, h''⟩ => spliced_nil ?_) fun _ _ x => x)))
  exact ⟨⟨S'.base h1, h2⟩, h''⟩
theorem call2 {x : Str} {p pos : Pos} {e e2 : Expr} {f : Addr} {n q : Str} {d : Dfn} {dV kV : Value} {env : Env} {Q : Value → Shared → Prop}
    (hfn : FnD B.h f n q d dV kV)
    (h : wpAny (model prog w) A (eval (.Name x p) env) (fun v s₁ => v = .ref f ∧ wpAny (model prog w) A (eval e env) (fun v1 s₂ => wpAny (model prog w) A (eval e2 env) (fun v2 s₃ => (∃ m zs, St B L m zs s₃) ∧ wpAny (model prog w) A (call (.ref f) [v1, v2]) Q E s₃) E s₂) E s₁) E s)
    (hs : starEach [e, e2] env = [(false, eval e env), (false, eval e2 env)] := by rfl) : wpAny (model prog w) A (eval (.Call (.Name x p) [e, e2] [] pos) env) Q E s := by
  obtain ⟨o, doc, pm, an, cd, ct, h1, h2, h3⟩ := hfn
  refine Call_Name2 (wpAny_mono h (fun v s₁ ⟨e1, h'⟩ => ?_) fun _ _ x => x) hs
  subst e1
  refine callWith_function (o := o) (fd := fnOf n q d.1 d.2.1 d.2.2 dV kV doc pm an cd ct) (evalArgs_plain (spliced_cons (wpAny_mono h' (fun v1 s₂ h'' => spliced_cons (wpAny_mono h'' (fun v2 s₃ ⟨⟨m', zs', S'⟩, h3⟩ => spliced_nil ?_) fun _ _ x => x)) fun _ _ x => x)))
  exact ⟨⟨S'.base h1, h2⟩, h3⟩
/-! loops -/
theorem tupleGo {target : Expr} {I : Addr} {io : Obj} {n : String} {vs : Array Value} {v : Value} {Q : Unit → Shared → Prop} (ho : s.heap.get? I = some io) (hc : io.cls = .type n) (hd : io.data = .fields vs)
    (hn : (["enumerate", "zip", "dict_itemiterator", "dict_reverseitemiterator", "odict_iterator", "itertools.zip_longest", "itertools.pairwise"].contains n) = false) (h : Q () s) :
    wpAny (model prog w) A (letOwnedTupleGo target (.ref I) v) Q E s := by
  have key : wpAny (model prog w) A (do
    let (.ref r, .ref a) := ((Value.ref I, v) : Value × Value) | return
    let o ← load r
    match o.cls, o.data with
    | .type n, .fields vs =>
      if ["enumerate", "zip", "dict_itemiterator", "dict_reverseitemiterator", "odict_iterator", "itertools.zip_longest", "itertools.pairwise"].contains n && vs[0]? == some (rawInt a) then
        rule "for.unpacks-the-owned-tuple"
        updateField r 0 .none
    | _, _ => pure ()) Q E s := by
    cases v with
    | ref a =>
      refine wpAny_bind (wpAny_load ho ?_)
      rw [hc, hd]
      simp only [hn, Bool.false_and, Bool.false_eq_true, if_false]
      exact wpAny_pure h
    | _ => exact wpAny_pure h
  unfold letOwnedTupleGo
  split
  · exact key
  · exact key
  · exact wpAny_pure h
theorem notedFalse {M : Model} {env : Env} {E : Value → Shared → Prop} {e : Value} {s : Shared} (h : False) : notedBy M A env E e s := h.elim
/-- for over anything that goes on by turns -/
theorem forG {target : Expr} {body : List Stmt} {env : Env} {I : Addr} {io : Obj} {n : Nat} {Iter : Nat → Obj → Prop} {P : Nat → Value → Prop}
    (S : St B L m ((I, io) :: zs) s) (hio : Iter 0 io)
    (J : Nat → (Str → Option Value) → List (Addr × Obj) → Prop) (h0 : J 0 m zs)
    (item : ∀ i m' zs' s' io (Q : Option Value → Shared → Prop) (E : Value → Shared → Prop), i < n → J i m' zs' → Iter i io → St B L m' ((I, io) :: zs') s' →
      (∀ v io' s'', P i v → Iter (i + 1) io' → St B L m' ((I, io') :: zs') s'' → Q (some v) s'') → wpAny (model prog w) A (pyNext (.ref I)) Q E s')
    (fin : ∀ m' zs' s' io (Q : Option Value → Shared → Prop) (E : Value → Shared → Prop), J n m' zs' → Iter n io → St B L m' ((I, io) :: zs') s' →
      (∀ s'', St B L m' zs' s'' → Q none s'') → wpAny (model prog w) A (pyNext (.ref I)) Q E s')
    (lot : ∀ i io, Iter i io → ∃ k vs, io.cls = .type k ∧ io.data = .fields vs ∧ (["enumerate", "zip", "dict_itemiterator", "dict_reverseitemiterator", "odict_iterator", "itertools.zip_longest", "itertools.pairwise"].contains k) = false)
    (turn : ∀ i v m₁ zs₁ s₁ io₁, i < n → P i v → J i m₁ zs₁ → St B L m₁ ((I, io₁) :: zs₁) s₁ →
      wpAny (model prog w) A (assign target env v) (fun _ s₂ => wpAny (model prog w) A (execs body env) (fun f s₃ =>
        (f = .next ∧ ∃ m₂ zs₂, St B L m₂ ((I, io₁) :: zs₂) s₃ ∧ J (i + 1) m₂ zs₂) ∨ ∃ v, f = .ret v ∧ R (.ok (.ret v)) s₃) (fun _ _ => False) s₂) (fun _ _ => False) s₁)
    (hR : ∀ m' zs' s', J n m' zs' → St B L m' zs' s' → R (.ok .next) s') :
    codeAny (model prog w) A (.forLoop target (.ref I) body [] env) R s := by
  refine codeAny_forLoop_any (fun k s' => ∃ i m' zs' io', k + i = n ∧ J i m' zs' ∧ Iter i io' ∧ St B L m' ((I, io') :: zs') s') (fun k s' hI => ?_) n ⟨0, m, zs, io, rfl, h0, hio, S⟩
  obtain ⟨i, m', zs', io', hk, hJ, hit, S'⟩ := hI
  by_cases hi : i < n
  · refine item i m' zs' s' io' _ _ hi hJ hit S' fun v io₁ s₁ hP hit₁ S₁ => ?_
    obtain ⟨kk, vs, l1, l2, l3⟩ := lot _ _ hit₁
    refine tupleGo (S₁.get (.head _)) l1 l2 l3 ?_
    refine wpAny_mono (turn i v m' zs' s₁ io₁ hi hP hJ S₁) (fun _ s₂ h₂ => wpAny_mono h₂ (fun f s₃ h₃ => ?_) fun _ _ x => x.elim) fun _ _ x => x.elim
    rcases h₃ with ⟨rfl, m₂, zs₂, S₃, hJ₂⟩ | ⟨v, rfl, hr⟩
    · exact ⟨k - 1, by (first | lia | omega), i + 1, m₂, zs₂, io₁, by (first | lia | omega), hJ₂, hit₁, S₃⟩
    · exact hr
  · have : i = n := by (first | lia | omega)
    subst this
    refine fin m' zs' s' io' _ _ hJ hit S' fun s₁ S₁ => ?_
    exact wpAny_execs_nil (hR m' zs' s₁ hJ S₁)
theorem St.iter (S : St B L m ((I, io) :: zs) s) {h' : Heap} {o' : Obj} (hs : Heap.SameBut I s.heap h') (ho : h'.get? I = some o') (t : Nat) : St B L m ((I, o') :: zs) { s with heap := h', toks := t } := S.upd .head hs ho t
theorem St.iterEnd (S : St B L m ((I, io) :: zs) s) {h' : Heap} (hs : Heap.ExtBut I s.heap h') (t : Nat) : St B L m zs { s with heap := h', toks := t } := by
  have hI := S.N (I, io) (.head _)
  obtain ⟨oL, es, ep, hL, r⟩ := S.F.ns
  have nd := S.nd
  rw [List.map_cons, List.nodup_cons] at nd
  refine ⟨⟨⟨oL, es, ep, hs _ _ (Ne.symm hI.2.1) hL, r⟩, fun b o e => hs b o (fun z => ?_) (S.F.keep b o e), S.F.above⟩, fun p hp => ⟨hs _ _ (fun z => ?_) (S.N p (.tail _ hp)).1, (S.N p (.tail _ hp)).2⟩, nd.2, S.G, S.O⟩
  · rw [z] at e; exact nomatch (e.symm.trans hI.2.2)
  · exact nd.1 (List.mem_map.mpr ⟨p, hp, z⟩)
/-- for over a list -/
theorem forL {target : Expr} {body : List Stmt} {env : Env} {I ax : Addr} {io : Obj} {items : List Value} (hh : A.handled = none)
    (S : St B L m ((I, io) :: zs) s) (hio : io = { cls := .type "list_iterator", data := .fields #[.ref ax, .int 0 0] })
    (J : Nat → (Str → Option Value) → List (Addr × Obj) → Prop) (h0 : J 0 m zs)
    (hsrc : ∀ i m' zs' s', J i m' zs' → St B L m' zs' s' → s'.heap.IsList ax items.toArray)
    (turn : ∀ i v m₁ zs₁ s₁ io₁, items[i]? = some v → J i m₁ zs₁ → St B L m₁ ((I, io₁) :: zs₁) s₁ →
      wpAny (model prog w) A (assign target env v) (fun _ s₂ => wpAny (model prog w) A (execs body env) (fun f s₃ =>
        (f = .next ∧ ∃ m₂ zs₂, St B L m₂ ((I, io₁) :: zs₂) s₃ ∧ J (i + 1) m₂ zs₂) ∨ ∃ v, f = .ret v ∧ R (.ok (.ret v)) s₃) (fun _ _ => False) s₂) (fun _ _ => False) s₁)
    (hR : ∀ m' zs' s', J items.length m' zs' → St B L m' zs' s' → R (.ok .next) s') :
    codeAny (model prog w) A (.forLoop target (.ref I) body [] env) R s := by
  refine forG (n := items.length) (Iter := fun i o => o.cls = .type "list_iterator" ∧ o.data = .fields #[.ref ax, .int i 0]) (P := fun i v => items[i]? = some v) S (by rw [hio]; exact ⟨rfl, rfl⟩) J h0 ?_ ?_ ?_ ?_ hR
  · intro i m' zs' s' io Q E hi hJ hit S' hQ
    have hl := hsrc i m' zs' s' hJ S'.drop1
    refine wpAny_pyNext_list_item (x := items[i]) ⟨io, S'.get (.head _), hit⟩ hl (by simp [hi]) fun h' hit' hs => ?_
    obtain ⟨o', ho', h1, h2⟩ := hit'
    exact hQ _ o' _ (by simp [hi]) ⟨h1, h2⟩ (S'.iter hs ho' s'.toks)
  · intro m' zs' s' io Q E hJ hit S' hQ
    have hl := hsrc _ m' zs' s' hJ S'.drop1
    exact wpAny_pyNext_list_end hh ⟨io, S'.get (.head _), hit⟩ hl (by simp) fun h' he => hQ _ (S'.iterEnd he s'.toks)
  · intro i io hit
    exact ⟨_, _, hit.1, hit.2, by decide⟩
  · intro i v m₁ zs₁ s₁ io₁ _ hP hJ S₁
    exact turn i v m₁ zs₁ s₁ io₁ hP hJ S₁
/-- for over a tuple -/
theorem forT {target : Expr} {body : List Stmt} {env : Env} {I ax : Addr} {io : Obj} {items : List Value} (hh : A.handled = none)
    (S : St B L m ((I, io) :: zs) s) (hio : io = { cls := .type "tuple_iterator", data := .fields #[.ref ax, .int 0 0] })
    (J : Nat → (Str → Option Value) → List (Addr × Obj) → Prop) (h0 : J 0 m zs)
    (hsrc : ∀ i m' zs' s', J i m' zs' → St B L m' zs' s' → s'.heap.IsTuple ax items.toArray)
    (turn : ∀ i v m₁ zs₁ s₁ io₁, items[i]? = some v → J i m₁ zs₁ → St B L m₁ ((I, io₁) :: zs₁) s₁ →
      wpAny (model prog w) A (assign target env v) (fun _ s₂ => wpAny (model prog w) A (execs body env) (fun f s₃ =>
        (f = .next ∧ ∃ m₂ zs₂, St B L m₂ ((I, io₁) :: zs₂) s₃ ∧ J (i + 1) m₂ zs₂) ∨ ∃ v, f = .ret v ∧ R (.ok (.ret v)) s₃) (fun _ _ => False) s₂) (fun _ _ => False) s₁)
    (hR : ∀ m' zs' s', J items.length m' zs' → St B L m' zs' s' → R (.ok .next) s') :
    codeAny (model prog w) A (.forLoop target (.ref I) body [] env) R s := by
  refine forG (n := items.length) (Iter := fun i o => o.cls = .type "tuple_iterator" ∧ o.data = .fields #[.ref ax, .int i 0]) (P := fun i v => items[i]? = some v) S (by rw [hio]; exact ⟨rfl, rfl⟩) J h0 ?_ ?_ ?_ ?_ hR
  · intro i m' zs' s' io Q E hi hJ hit S' hQ
    have hl := hsrc i m' zs' s' hJ S'.drop1
    refine wpAny_pyNext_tuple_item (x := items[i]) ⟨io, S'.get (.head _), hit⟩ hl (by simp [hi]) fun h' hit' hs => ?_
    obtain ⟨o', ho', h1, h2⟩ := hit'
    exact hQ _ o' _ (by simp [hi]) ⟨h1, h2⟩ (S'.iter hs ho' s'.toks)
  · intro m' zs' s' io Q E hJ hit S' hQ
    have hl := hsrc _ m' zs' s' hJ S'.drop1
    exact wpAny_pyNext_tuple_end hh ⟨io, S'.get (.head _), hit⟩ hl (by simp) fun h' he => hQ _ (S'.iterEnd he s'.toks)
  · intro i io hit
    exact ⟨_, _, hit.1, hit.2, by decide⟩
  · intro i v m₁ zs₁ s₁ io₁ _ hP hJ S₁
    exact turn i v m₁ zs₁ s₁ io₁ hP hJ S₁
/-- for over a range by ones -/
theorem forR {target : Expr} {body : List Stmt} {env : Env} {I : Addr} {io : Obj} {a : Int} {n : Nat} (hh : A.handled = none)
    (S : St B L m ((I, io) :: zs) s) (hio : io = { cls := .type "range_iterator", data := .fields #[rawInt a, rawInt n, rawInt 1] })
    (J : Nat → (Str → Option Value) → List (Addr × Obj) → Prop) (h0 : J 0 m zs)
    (turn : ∀ (i : Nat) t m₁ zs₁ s₁ io₁, i < n → J i m₁ zs₁ → St B L m₁ ((I, io₁) :: zs₁) s₁ →
      wpAny (model prog w) A (assign target env (.int (a + i) t)) (fun _ s₂ => wpAny (model prog w) A (execs body env) (fun f s₃ =>
        (f = .next ∧ ∃ m₂ zs₂, St B L m₂ ((I, io₁) :: zs₂) s₃ ∧ J (i + 1) m₂ zs₂) ∨ ∃ v, f = .ret v ∧ R (.ok (.ret v)) s₃) (fun _ _ => False) s₂) (fun _ _ => False) s₁)
    (hR : ∀ m' zs' s', J n m' zs' → St B L m' zs' s' → R (.ok .next) s') :
    codeAny (model prog w) A (.forLoop target (.ref I) body [] env) R s := by
  refine forG (n := n) (Iter := fun i o => o = { cls := .type "range_iterator", data := .fields #[rawInt (a + i), rawInt ((n : Int) - i), rawInt 1] }) (P := fun i v => ∃ t, v = .int (a + i) t) S (by rw [hio]; simp) J h0 ?_ ?_ ?_ ?_ hR
  · intro i m' zs' s' io Q E hi hJ hit S' hQ
    subst hit
    refine wpAny_pyNext_range_item (x := a + i) (left := (n : Int) - i) (step := 1) (S'.get (.head _)) (by (first | lia | omega)) fun h' hit' hs => ?_
    refine hQ _ _ _ ⟨_, rfl⟩ ?_ (S'.iter hs hit' _)
    have e1 : (a + (i : Int) + 1) = a + ((i + 1 : Nat) : Int) := by (first | lia | omega)
    have e2 : ((n : Int) - i - 1) = (n : Int) - ((i + 1 : Nat) : Int) := by (first | lia | omega)
    rw [e1, e2]
  · intro m' zs' s' io Q E hJ hit S' hQ
    subst hit
    exact wpAny_pyNext_range_end hh (x := a + n) (left := (n : Int) - n) (step := 1) (S'.get (.head _)) (by (first | lia | omega)) fun h' he => hQ _ (S'.iterEnd he s'.toks)
  · intro i io hit
    subst hit
    exact ⟨_, _, rfl, rfl, by decide⟩
  · rintro i v m₁ zs₁ s₁ io₁ hi ⟨t, rfl⟩ hJ S₁
    exact turn i t m₁ zs₁ s₁ io₁ hi hJ S₁
end
end Mine
end
section
open PySem PySem.W PyProof.Rows PySem.Calls
set_option maxRecDepth 100000
set_option maxHeartbeats 2000000
namespace Mine
section
variable {w : World} {A : Around} {E : Value → Shared → Prop} {s : Shared} {B : Bs} {L a : Addr} {m mg : Str → Option Value} {zs : List (Addr × Obj)} {cn : Str} {cs : Scope} {ccd : Value} {cl : List (Str × Addr)} {R : Result → Shared → Prop} {env : Env}
theorem St.re (S : St B L m zs s) {h' : Heap} {t : Nat} (F' : Fr B.h L h' m) (N' : News B.h L h' zs) : St B L m zs { s with heap := h', toks := t } := ⟨F', N', S.nd, S.G, S.O⟩
/-- the state when one temporary has come (and may have turned) -/
theorem St.ext1 (S : St B L m zs s) {h' : Heap} (hs : Heap.ExtBut s.heap.objs.size s.heap h') (t : Nat) : St B L m zs { s with heap := h', toks := t } := by
  obtain ⟨oL, es, ep, hL, r⟩ := S.F.ns
  exact ⟨⟨⟨oL, es, ep, hs _ _ (Nat.ne_of_lt (Heap.lt_size hL)) hL, r⟩, fun b o e => have h := S.F.keep b o e; hs b o (Nat.ne_of_lt (Heap.lt_size h)) h, S.F.above⟩,
    fun p hp => ⟨hs _ _ (Nat.ne_of_lt (Heap.lt_size (S.N p hp).1)) (S.N p hp).1, (S.N p hp).2⟩, S.nd, S.G, S.O⟩
theorem St.kept (S : St B L m zs s) {h' : Heap} (hs : ∀ b o, s.heap.get? b = some o → h'.get? b = some o) (t : Nat) : St B L m zs { s with heap := h', toks := t } :=
  S.ext1 (fun b o _ e => hs b o e) t
/-! items -/
theorem itL {value slice : Expr} {l : Addr} {vs : List Value} {k : Int} {u : Tok} {v : Value} {Q : Value → Shared → Prop} (hl : s.heap.IsList l vs.toArray) (h0 : 0 ≤ k) (hx : vs[k.toNat]? = some v) (h : Q v s) (hf : k < 2 ^ 63)
    (hs : subscripted slice false (.ref l) (.int k u) = operate [.ref l, .int k u] (getItem (.ref l) (.int k u)) := by with_unfolding_all rfl) : wpAny (model prog w) A (subscriptTail value slice (.ref l) (.int k u)) Q E s :=
  tail_any hl.typeIs slot_list_getitem.lookup (wpAny_getItem_list hl h0 hf (by simpa using hx) h) hs
theorem itT {value slice : Expr} {l : Addr} {vs : List Value} {k : Int} {u : Tok} {v : Value} {Q : Value → Shared → Prop} (hl : IsTup s.heap l vs.toArray) (h0 : 0 ≤ k) (hx : vs[k.toNat]? = some v) (h : Q v s) (hf : k < 2 ^ 63)
    (hs : subscripted slice false (.ref l) (.int k u) = operate [.ref l, .int k u] (getItem (.ref l) (.int k u)) := by with_unfolding_all rfl) : wpAny (model prog w) A (subscriptTail value slice (.ref l) (.int k u)) Q E s :=
  item_tupleT (j := k.toNat) hl (by (first | lia | omega)) hf (by
    have hlt := (List.getElem?_eq_some_iff.mp hx).1
    have e : (decide (0 ≤ k) && decide (k < (vs.length : Int))) = true := by simp; (first | lia | omega)
    unfold seqIndex?
    simp only [if_neg (show ¬ k < 0 by (first | lia | omega)), e, if_true]) hx h hs
theorem isL (S : St B L m zs s) {l : Addr} {vs : List Value} {n : Nat} (h : (l, lob vs n) ∈ zs) : s.heap.IsList l vs.toArray := ⟨_, S.get h, rfl, n, rfl⟩
theorem isLb (S : St B L m zs s) {l : Addr} {vs : List Value} (h : B.h.IsList l vs.toArray) : s.heap.IsList l vs.toArray := let ⟨o, ho, r⟩ := h; ⟨o, S.base ho, r⟩
theorem isT (S : St B L m zs s) {l : Addr} {vs : List Value} (h : (l, tob vs) ∈ zs) : IsTup s.heap l vs.toArray := ⟨_, S.get h, rfl, 0, rfl⟩
theorem isTb (S : St B L m zs s) {l : Addr} {vs : List Value} (h : IsTup B.h l vs.toArray) : IsTup s.heap l vs.toArray := let ⟨o, ho, r⟩ := h; ⟨o, S.base ho, r⟩
/-- an item of a text -/
theorem itS {value slice : Expr} {x : Str} {t u : Tok} {i : Int} {Q : Value → Shared → Prop} (S : St B L m zs s) (h0 : -(x.length : Int) ≤ i) (h1 : i < (x.length : Int)) (hn : x.length ≤ 16777216)
    (h : ∀ t s', St B L m zs s' → Q (.str (Txt.item x i) t) s')
    (hs : subscripted slice false (.str x t) (.int i u) = operate [.str x t, .int i u] (getItem (.str x t) (.int i u)) := by with_unfolding_all rfl)
    (ht : ∀ r, letTemporaryGo value (.str x t) r = pure () := by intro _; with_unfolding_all rfl) : wpAny (model prog w) A (subscriptTail value slice (.str x t) (.int i u)) Q E s :=
  KXi.item rfl h0 h1 hn (fun _ => h _ _ (S.tk _)) hs ht
/-- a cut of a list -/
theorem slL {value : Expr} {lo hi st : Option Expr} {sp : Pos} {l : Addr} {vs : List Value} {vl vu vk : Value} {il iu ik : Option Int} {Q : Value → Shared → Prop} (S : St B L m zs s) (hl : s.heap.IsList l vs.toArray)
    (pl : IsPart vl il) (pu : IsPart vu iu) (pk : IsPart vk ik) (h0 : ik ≠ some 0) (hz : vs.length ≤ sizeLine)
    (h : ∀ D s', St B L m ((D, lob (slicePick vs.toArray il iu ik).toList 0) :: zs) s' → Q (.ref D) s')
    {ops : List Value} (hs : subscripted (.Slice lo hi st sp) false (.ref l) (.ref s.heap.objs.size) = operate ops (getItem (.ref l) (.ref s.heap.objs.size)) := by with_unfolding_all rfl) :
    wpAny (model prog w) A (subscriptTail value (.Slice lo hi st sp) (.ref l) (.ref s.heap.objs.size)) Q E { s with heap := s.heap.push { cls := .type "slice", data := .fields #[vl, vu, vk] } } := by
  have S1 := (S.alloc { cls := .type "slice", data := .fields #[vl, vu, vk] } s.toks)
  have hl1 : (s.heap.push { cls := .type "slice", data := .fields #[vl, vu, vk] }).IsList l vs.toArray := let ⟨o, ho, r⟩ := hl; ⟨o, Heap.get?_push_of_some _ ho, r⟩
  refine tail_any (s := { s with heap := s.heap.push { cls := .type "slice", data := .fields #[vl, vu, vk] } }) hl1.typeIs slot_list_getitem.lookup ?_ hs
  refine wpAny_getItem_list_slice (s := { s with heap := s.heap.push { cls := .type "slice", data := .fields #[vl, vu, vk] } }) hl1 ⟨_, Heap.get?_push_size _ rfl, rfl, rfl⟩ pl pu pk h0 ?_ (by simpa using hz)
  have S2 := (S1.drop1.alloc (lob (slicePick vs.toArray il iu ik).toList 0) s.toks)
  exact h _ _ S2
/-! the built-in functions -/
theorem cB1 {x : Str} {p pos : Pos} {e : Expr} {id : String} {Q : Value → Shared → Prop}
    (h : wpAny (model prog w) A (eval (.Name x p) env) (fun v s₁ => v = .builtin id ∧ wpAny (model prog w) A (eval e env) (fun v1 s₂ => wpAny (model prog w) A (call (.builtin id) [v1]) Q E s₂) E s₁) E s)
    (hs : starEach [e] env = [(false, eval e env)] := by rfl) : wpAny (model prog w) A (eval (.Call (.Name x p) [e] [] pos) env) Q E s :=
  Call_Name1 (wpAny_mono h (fun v s₁ ⟨e1, h'⟩ => by subst e1; exact callWith_builtin rfl (evalArgs_plain (spliced_cons (wpAny_mono h' (fun v1 s₂ h2 => spliced_nil h2) fun _ _ x => x)))) fun _ _ x => x) hs
theorem cB2 {x : Str} {p pos : Pos} {e e2 : Expr} {id : String} {Q : Value → Shared → Prop}
    (h : wpAny (model prog w) A (eval (.Name x p) env) (fun v s₁ => v = .builtin id ∧ wpAny (model prog w) A (eval e env) (fun v1 s₂ => wpAny (model prog w) A (eval e2 env) (fun v2 s₃ => wpAny (model prog w) A (call (.builtin id) [v1, v2]) Q E s₃) E s₂) E s₁) E s)
    (hs : starEach [e, e2] env = [(false, eval e env), (false, eval e2 env)] := by rfl) : wpAny (model prog w) A (eval (.Call (.Name x p) [e, e2] [] pos) env) Q E s :=
  Call_Name2 (wpAny_mono h (fun v s₁ ⟨e1, h'⟩ => by subst e1; exact callWith_builtin rfl (evalArgs_plain (spliced_cons (wpAny_mono h' (fun v1 s₂ h2 => spliced_cons (wpAny_mono h2 (fun v2 s₃ h3 => spliced_nil h3) fun _ _ x => x)) fun _ _ x => x)))) fun _ _ x => x) hs
theorem cT1 {x : Str} {p pos : Pos} {e : Expr} {id : String} {Q : Value → Shared → Prop}
    (h : wpAny (model prog w) A (eval (.Name x p) env) (fun v s₁ => v = .type id ∧ wpAny (model prog w) A (eval e env) (fun v1 s₂ => wpAny (model prog w) A (call (.type id) [v1]) Q E s₂) E s₁) E s)
    (hs : starEach [e] env = [(false, eval e env)] := by rfl) : wpAny (model prog w) A (eval (.Call (.Name x p) [e] [] pos) env) Q E s :=
  Call_Name1 (wpAny_mono h (fun v s₁ ⟨e1, h'⟩ => by subst e1; exact PyProof.Rows.callWith_type rfl (evalArgs_plain (spliced_cons (wpAny_mono h' (fun v1 s₂ h2 => spliced_nil h2) fun _ _ x => x)))) fun _ _ x => x) hs
theorem cT2 {x : Str} {p pos : Pos} {e e2 : Expr} {id : String} {Q : Value → Shared → Prop}
    (h : wpAny (model prog w) A (eval (.Name x p) env) (fun v s₁ => v = .type id ∧ wpAny (model prog w) A (eval e env) (fun v1 s₂ => wpAny (model prog w) A (eval e2 env) (fun v2 s₃ => wpAny (model prog w) A (call (.type id) [v1, v2]) Q E s₃) E s₂) E s₁) E s)
    (hs : starEach [e, e2] env = [(false, eval e env), (false, eval e2 env)] := by rfl) : wpAny (model prog w) A (eval (.Call (.Name x p) [e, e2] [] pos) env) Q E s :=
  Call_Name2 (wpAny_mono h (fun v s₁ ⟨e1, h'⟩ => by subst e1; exact PyProof.Rows.callWith_type rfl (evalArgs_plain (spliced_cons (wpAny_mono h' (fun v1 s₂ h2 => spliced_cons (wpAny_mono h2 (fun v2 s₃ h3 => spliced_nil h3) fun _ _ x => x)) fun _ _ x => x)))) fun _ _ x => x) hs
theorem lenL {l : Addr} {vs : List Value} {Q : Value → Shared → Prop} (S : St B L m zs s) (hl : s.heap.IsList l vs.toArray) (hz : vs.length ≤ 16384) (h : ∀ t s', St B L m zs s' → Q (.int vs.length t) s') :
    wpAny (model prog w) A (call (.builtin "len") [.ref l]) Q E s := kun_lenL (k := vs.length) hl (by simp) (by (first | lia | omega)) (h _ _ (S.tk _))
theorem lenS {x : Str} {t : Tok} {Q : Value → Shared → Prop} (S : St B L m zs s) (hz : x.length ≤ 16777216) (h : ∀ t s', St B L m zs s' → Q (.int x.length t) s') :
    wpAny (model prog w) A (call (.builtin "len") [.str x t]) Q E s := PyProof.Rows.len_str (by (first | lia | omega)) (h _ _ (S.tk _))
theorem sumL {l : Addr} {vs : List Value} {ns : List Int} {Q : Value → Shared → Prop} (S : St B L m zs s) (hh : A.handled = none) (hl : s.heap.IsList l vs.toArray) (hi : IntsAre vs ns) (h : ∀ t s', St B L m zs s' → Q (.int ns.sum t) s') :
    wpAny (model prog w) A (call (.builtin "sum") [.ref l]) Q E s := LSm.sum_ints S.F S.N hh hl hi fun h' tk t' F' N' => h _ _ (S.re F' N')
/-! for over range(n) -/
theorem rngIt {r : Addr} {a b : Int} {t u v : Tok} {k : Nat} {Q : Value → Shared → Prop} (S : St B L m ((r, { cls := .type "range", data := .fields #[.int a t, .int b u, .int 1 v] }) :: zs) s)
    (hk : k = (b - a).toNat) (ha : -16384 ≤ a) (ha' : a ≤ 16384) (hb : -16384 ≤ b) (hb' : b ≤ 16384)
    (h : ∀ I s', St B L m ((I, { cls := .type "range_iterator", data := .fields #[rawInt a, rawInt k, rawInt 1] }) :: zs) s' → Q (.ref I) s') : wpAny (model prog w) A (pyIter (.ref r)) Q E s := by
  refine wpAny_pyIter_range (S.get (.head _)) (small_one (by (first | lia | omega)) (by (first | lia | omega)) (by (first | lia | omega)) (by (first | lia | omega))) ?_
  have e : Builtin.Range.rangeSize a b 1 = k := by rw [rangeSize_nat, hk]
  rw [e]
  exact h _ _ (S.drop1.alloc _ s.toks)
theorem rng1 {n : Int} {t : Tok} {Q : Value → Shared → Prop} (S : St B L m zs s) (h : ∀ r u v s', St B L m ((r, { cls := .type "range", data := .fields #[.int 0 u, .int n t, .int 1 v] }) :: zs) s' → Q (.ref r) s') :
    wpAny (model prog w) A (call (.type "range") [.int n t]) Q E s := call_range_1 (h _ s.toks (s.toks + 1) _ (S.alloc { cls := .type "range", data := .fields #[.int 0 s.toks, .int n t, .int 1 (s.toks + 1)] } _))
theorem rng2 {a b : Int} {t u : Tok} {Q : Value → Shared → Prop} (S : St B L m zs s) (h : ∀ r v s', St B L m ((r, { cls := .type "range", data := .fields #[.int a t, .int b u, .int 1 v] }) :: zs) s' → Q (.ref r) s') :
    wpAny (model prog w) A (call (.type "range") [.int a t, .int b u]) Q E s := call_range_2 (h _ _ _ (S.alloc _ _))
/-! displays -/
theorem spC {e : Expr} {rest : List Expr} {pos : Pos} {Q : List Value → Shared → Prop} (h : wpAny (model prog w) A (eval e env) (fun v s₁ => wpAny (model prog w) A (spliced (backTo pos (starEach rest env))) (fun vs s₂ => Q (v :: vs) s₂) E s₁) E s)
    (he : starEach (e :: rest) env = (false, eval e env) :: starEach rest env := by rfl) : wpAny (model prog w) A (spliced (backTo pos (starEach (e :: rest) env))) Q E s := by
  rw [he]; exact spliced_cons h
theorem spN {pos : Pos} {Q : List Value → Shared → Prop} (h : Q [] s) : wpAny (model prog w) A (spliced (backTo pos (starEach [] env))) Q E s := spliced_nil h
/-! unpacking -/
theorem unT {elts : List Expr} {k : Nat} {pos : Pos} {t : Addr} {vs : List Value} {Q : Unit → Shared → Prop} (S : St B L m zs s) (hh : A.handled = none) (ht : IsTup s.heap t vs.toArray) (hn : (assignEach elts env).length = vs.length)
    (hstar : (assignEach elts env).findIdx? (·.1) = none)
    (h : ∀ s', St B L m zs s' → wpAny (model prog w) A (assignInOrder ((assignEach elts env).map (·.2)) vs) Q E s') : wpAny (model prog w) A (assign (.Tuple elts k pos) env (.ref t)) Q E s :=
  wpAny_assign_Tuple hh ht (by simpa using hn) hstar fun h' hs => h _ (S.ext1 hs s.toks)
theorem aio {x : Str} {p : Pos} {ts : List (Value → Sem Unit)} {v : Value} {vs : List Value} {Q : Unit → Shared → Prop} (h : wpAny (model prog w) A (storeName env x v) (fun _ s₁ => wpAny (model prog w) A (assignInOrder ts vs) Q E s₁) E s) :
    wpAny (model prog w) A (assignInOrder (assign (.Name x p) env :: ts) (v :: vs)) Q E s := assignInOrder_cons (wpAny_bind (wpAny_standAt (wpAny_bindName h)))
theorem aio0 {vs : List Value} {Q : Unit → Shared → Prop} (h : Q () s) : wpAny (model prog w) A (assignInOrder [] vs) Q E s := assignInOrder_nil h
theorem asN {x : Str} {p : Pos} {v : Value} {Q : Unit → Shared → Prop} (h : wpAny (model prog w) A (storeName env x v) Q E s) : wpAny (model prog w) A (assign (.Name x p) env v) Q E s := wpAny_bind (wpAny_standAt (wpAny_bindName h))
/-! statements -/
theorem sAsg {x : Str} {p pos : Pos} {value : Expr} {rest : List Stmt} {Q : Flow → Shared → Prop}
    (h : wpAny (model prog w) A (eval value env) (fun v s₁ => wpAny (model prog w) A (storeName env x v) (fun _ s₂ => wpAny (model prog w) A (execs rest env) Q E s₂) E s₁) E s)
    (hs : swapsWith value (some (.Name x p)) pos.line env = pure false := by rfl) : wpAny (model prog w) A (execs (.Assign [.Name x p] value pos :: rest) env) Q E s :=
  wpAny_execs_cons (wpAny_Assign_Name h hs)
theorem sRet {e : Expr} {pos : Pos} {rest : List Stmt} {Q : Flow → Shared → Prop} (h : wpAny (model prog w) A (eval e env) (fun v => Q (.ret v)) E s) : wpAny (model prog w) A (execs (.Return (some e) pos :: rest) env) Q E s :=
  wpAny_execs_cons (wpAny_Return_some h)
theorem sIf {test : Expr} {body orelse : List Stmt} {pos : Pos} {rest : List Stmt} {Q : Flow → Shared → Prop}
    (h : wpAny (model prog w) A (isTrue test env (eval test env)) (fun b s₂ => if b then wpAny (model prog w) A (execs body env) (fun f s' => match f with | .next => wpAny (model prog w) A (execs rest env) Q E s' | f => Q f s') E s₂
      else wpAny (model prog w) A (execs orelse env) (fun f s' => match f with | .next => wpAny (model prog w) A (execs rest env) Q E s' | f => Q f s') E s₂) E s) : wpAny (model prog w) A (execs (.If test body orelse pos :: rest) env) Q E s :=
  wpAny_execs_cons (wpAny_If h)
/-- an if whose ways meet -/
theorem sIfJ {test : Expr} {body orelse : List Stmt} {pos : Pos} {rest : List Stmt} {Q : Flow → Shared → Prop} (J : Shared → Prop) 
    (h : wpAny (model prog w) A (isTrue test env (eval test env)) (fun b s₂ => if b then wpAny (model prog w) A (execs body env) (fun f s' => f = .next ∧ J s') E s₂
      else wpAny (model prog w) A (execs orelse env) (fun f s' => f = .next ∧ J s') E s₂) E s) (hr : ∀ s', J s' → wpAny (model prog w) A (execs rest env) Q E s') : wpAny (model prog w) A (execs (.If test body orelse pos :: rest) env) Q E s :=
  sIf (wpAny_mono h (fun b s₂ hb => by
    cases b with
    | true => exact wpAny_mono hb (fun f s' ⟨e, hj⟩ => by subst e; exact hr s' hj) fun _ _ x => x
    | false => exact wpAny_mono hb (fun f s' ⟨e, hj⟩ => by subst e; exact hr s' hj) fun _ _ x => x) fun _ _ x => x)
theorem sExp {e : Expr} {pos : Pos} {rest : List Stmt} {Q : Flow → Shared → Prop} (h : wpAny (model prog w) A (eval e env) (fun _ s' => wpAny (model prog w) A (execs rest env) Q E s') E s)
    (hi : interactive env = false := by rfl) (hs : swapsWith e none pos.line env = pure false := by rfl) : wpAny (model prog w) A (execs (.Expr e pos :: rest) env) Q E s := wpAny_execs_cons (wpAny_Expr_any h hi hs)
theorem sFor {target iter : Expr} {body : List Stmt} {pos : Pos} {rest : List Stmt} {Q : Flow → Shared → Prop}
    (h : wpAny (model prog w) A (eval iter env) (fun x s₁ => wpAny (model prog w) A (pyIter x) (fun it s₂ => codeAny (model prog w) A (.forLoop target it body [] env)
      (fun r s' => match r with | .ok .next => wpAny (model prog w) A (execs rest env) Q E s' | .ok (.ret v) => Q (.ret v) s' | _ => False) s₂) E s₁) E s)
    (hs : ∀ x, foldedSetIterable iter env x = pure x := by intro _; rfl) : wpAny (model prog w) A (execs (.For target iter body [] pos :: rest) env) Q E s := by
  refine wpAny_execs_cons (wpAny_For (wpAny_mono h (fun x s₁ h₁ => wpAny_mono h₁ (fun it s₂ h₂ => codeAny_mono h₂ fun r s' hr => ?_) fun _ _ x => x) fun _ _ x => x) hs)
  cases r with
  | error e => exact hr.elim
  | ok f => cases f with
    | next => exact hr
    | ret v => exact hr
    | brk => exact hr.elim
    | cont => exact hr.elim
theorem sWhile {test : Expr} {body : List Stmt} {pos : Pos} {rest : List Stmt} {Q : Flow → Shared → Prop}
    (I : Nat → Shared → Prop) (n : Nat) (h0 : I n s)
    (turn : ∀ n s, I n s → wpAny (model prog w) A (isTrue test env (eval test env)) (fun b s₂ => if b then wpAny (model prog w) A (execs body env) (fun f s₃ => f = .next ∧ ∃ k, k < n ∧ I k s₃) (fun _ _ => False) s₂
      else wpAny (model prog w) A (execs rest env) Q E s₂) (fun _ _ => False) s) : wpAny (model prog w) A (execs (.While test body [] pos :: rest) env) Q E s := by
  refine wpAny_execs_cons (wpAny_While ?_)
  refine codeAny_whileLoop I (fun n s hI => wpAny_mono (turn n s hI) (fun b s₂ h₂ => ?_) fun _ _ x => x.elim) n h0
  cases b with
  | true => exact wpAny_mono h₂ (fun f s₃ ⟨e, h₃⟩ => by subst e; exact h₃) fun _ _ x => x.elim
  | false => exact wpAny_execs_nil h₂
/-! comparisons, tests -/
theorem ltI {x y : Int} {t u : Tok} {Q : Value → Shared → Prop} (h : Q (.bool (decide (x < y))) s) : wpAny (model prog w) A (compareOp .Lt (.int x t) (.int y u)) Q E s := PyProof.Rows.lt_int h
theorem gtI {x y : Int} {t u : Tok} {Q : Value → Shared → Prop} (h : Q (.bool (decide (y < x))) s) : wpAny (model prog w) A (compareOp .Gt (.int x t) (.int y u)) Q E s := PyProof.Rows.gt_int h
theorem tB {b : Bool} {Q : Bool → Shared → Prop} (h : Q b s) : wpAny (model prog w) A (truthy (.bool b)) Q E s := wpAny_truthy_bool h
theorem meth {o : Expr} {name : Str} {apos pos : Pos} {args : List Expr} {pl : Sem Bool} {Q : Value → Shared → Prop}
    (h : wpAny (model prog w) A (eval o env) (fun ov s₁ => wpAny (model prog w) A (getMethod ov name pl) (fun fx s₂ => wpAny (model prog w) A (callWith pos fx.1 fx.2 (backTo pos (starEach args env)) []) Q E s₂) E s₁) E s)
    (he : eval (.Call (.Attribute o name apos) args [] pos) env = (do let ov ← eval o env; standAt apos.atName; let (f, first) ← holding [ov] (getMethod ov name pl); callWith pos f first (backTo pos (starEach args env)) []) := by rfl) :
    wpAny (model prog w) A (eval (.Call (.Attribute o name apos) args [] pos) env) Q E s := MethodCall_ h he
/-- the method append -/
theorem gmAppend {l : Addr} {vs : List Value} {n : Nat} {pl : Sem Bool} {pos : Pos} {e : Expr} {Q : Value → Shared → Prop} (ho : s.heap.get? l = some (lob vs n))
    (h : wpAny (model prog w) A (eval e env) (fun v s₁ => wpAny (model prog w) A (call (.builtin "list.append") [.ref l, v]) Q E s₁) E s) (hs : starEach [e] env = [(false, eval e env)] := by rfl) :
    wpAny (model prog w) A (getMethod (.ref l) "append" pl) (fun fx s₂ => wpAny (model prog w) A (callWith pos fx.1 fx.2 (backTo pos (starEach [e] env)) []) Q E s₂) E s := by
  refine getMethod_builtin ⟨_, ho, rfl⟩ PySem.F.plainAttrs_list PySem.F.slot_list_append PySem.F.type_list_append (fun a e => by cases e; exact ⟨_, ho, rfl⟩) ?_
  rw [hs]
  exact callWith_builtin rfl (evalArgs_plain (spliced_cons (wpAny_mono h (fun v1 s₂ h2 => spliced_nil h2) fun _ _ x => x)))
end
end Mine
end
section
open PySem PySem.W PyProof.Rows PySem.Calls
set_option maxRecDepth 100000
set_option maxHeartbeats 2000000
namespace Mine
inductive Fa {α β : Type} (R : α → β → Prop) : List α → List β → Prop
  | nil : Fa R [] []
  | cons {a b l k} : R a b → Fa R l k → Fa R (a :: l) (b :: k)
theorem Fa.mono {α β : Type} {R R' : α → β → Prop} {l k} (h : Fa R l k) (hm : ∀ a b, R a b → R' a b) : Fa R' l k := by
  induction h with
  | nil => exact .nil
  | cons x _ ih => exact .cons (hm _ _ x) ih
theorem Fa.app {α β : Type} {R : α → β → Prop} {l k l' k'} (h : Fa R l k) (h' : Fa R l' k') : Fa R (l ++ l') (k ++ k') := by
  induction h with
  | nil => exact h'
  | cons x _ ih => exact .cons x ih
theorem Fa.len {α β : Type} {R : α → β → Prop} {l k} (h : Fa R l k) : l.length = k.length := by
  induction h with
  | nil => rfl
  | cons x _ ih => simp [ih]
theorem Fa.get {α β : Type} {R : α → β → Prop} {l k} (h : Fa R l k) : ∀ {i : Nat} {b}, k[i]? = some b → ∃ a, l[i]? = some a ∧ R a b := by
  induction h with
  | nil => intro i b e; simp at e
  | cons x _ ih =>
    intro i b e
    cases i with
    | zero => simp at e; subst e; exact ⟨_, rfl, x⟩
    | succ i => simpa using ih (by simpa using e)
abbrev In (zs : List (Addr × Obj)) : Addr → Obj → Prop := fun a o => (a, o) ∈ zs
abbrev On (h : Heap) : Addr → Obj → Prop := fun a o => h.get? a = some o
/-- a value is a tuple of a depth and a name -/
def Pair (R : Addr → Obj → Prop) (v : Value) (p : Int × Str) : Prop := ∃ t tk tk', v = .ref t ∧ R t (tob [.int p.1 tk, .str p.2 tk'])
def OkN (n : Str) : Prop := n = Str.ofString "f" ∨ n = Str.ofString "g" ∨ n = Str.ofString "h"
inductive Run : List (Int × Str) → Int → Prop
  | one {n} : OkN n → Run [(0, n)] 0
  | step {ds d d' n} : Run ds d → 1 ≤ d' → d' ≤ d + 1 → OkN n → Run (ds ++ [(d', n)]) d'
theorem Run.nonneg {ds d} (h : Run ds d) : 0 ≤ d := by cases h <;> (first | lia | omega)
theorem okN_item (i : Int) (h0 : 0 ≤ i) (h1 : i < 3) : OkN (Txt.item (Str.ofString "fgh") i) := by
  have : i = 0 ∨ i = 1 ∨ i = 2 := by (first | lia | omega)
  rcases this with rfl | rfl | rfl
  · exact .inl (by decide +kernel)
  · exact .inr (.inl (by decide +kernel))
  · exact .inr (.inr (by decide +kernel))
theorem ints_pick {vs : List Value} {ns : List Int} (hi : IntsAre vs ns) (lo hi' st : Option Int) : ∃ ms, IntsAre (slicePick vs.toArray lo hi' st).toList ms := by
  have all : ∀ us : List Value, (∀ v ∈ us, ∃ i t, v = .int i t) → ∃ ms, IntsAre us ms := by
    intro us
    induction us with
    | nil => exact fun _ => ⟨[], .nil⟩
    | cons v us ih =>
      intro h
      obtain ⟨i, t, rfl⟩ := h _ (.head _)
      obtain ⟨ms, hm⟩ := ih fun v hv => h v (.tail _ hv)
      exact ⟨i :: ms, .cons i t hm⟩
  have mem : ∀ v ∈ vs, ∃ i t, v = .int i t := by
    intro v hv
    induction hi with
    | nil => cases hv
    | cons n t _ ih =>
      rcases List.mem_cons.mp hv with rfl | hv
      · exact ⟨n, t, rfl⟩
      · exact ih hv
  refine all _ fun v hv => mem v ?_
  unfold slicePick at hv
  rw [List.toList_toArray, List.mem_filterMap] at hv
  obtain ⟨i, _, e⟩ := hv
  have := Array.mem_of_getElem? e
  simpa using this
section
variable {w : World} {A : Around} {s₀ : Shared} {mg : Str → Option Value}
theorem calls_spec {f sc : Addr} {vs : List Value} {ns : List Int} (GL : Gl mg s₀.heap) (hmg1 : mg "range" = none) (hmg2 : mg "sum" = none) (hfn : Fn s₀.heap f "_law_calls" 15 .none .none) (hA : Rm A 1)
    (hs : s₀.heap.IsList sc vs.toArray) (hi : IntsAre vs ns) (hlen : vs.length ≤ 16384) :
    Tells w A (.ref f) ⟨[.ref sc], []⟩ (fun v ys => ∃ l us ds d n, v = .ref l ∧ (l, lob us n) ∈ ys ∧ Fa (Pair (In ys)) us ds ∧ Run ds d ∧ ds.length = 7) s₀ := by
  refine callDef0 [("script", .ref sc)] hfn GL.lim hA (fun _ _ _ _ _ => BindsTo.of_eq rfl) ?_
  intro A' L cd s hA' S
  refine hideQ ?_; intro Qf hQf
  have hh' := hA'.hh
  refine sAsg ?_
  refine List_ ?_
  refine spN ?_
  refine nwL S ?_; intro l s S
  refine stL S ?_; intro s S
  refine sAsg ?_
  refine cI S ?_; intro t s S
  refine stL S ?_; intro s S
  refine sFor ?_
  refine cT1 (id := "range") ?_
  refine nmB S GL hmg1 (by rfl) ?_
  refine ⟨rfl, ?_⟩
  refine cI S ?_; intro t' s S
  refine rng1 S ?_; intro r u v s S
  refine rngIt (k := 7) S (by decide) (by decide) (by decide) (by decide) (by decide) ?_; intro I s S
  refine forR hh' S rfl (fun i m zs => m "script" = some (.ref sc) ∧ m "calls" = some (.ref l) ∧ ∃ d tk us ds n ys, m "deep" = some (.int d tk) ∧ zs = (l, lob us n) :: ys ∧ Fa (Pair (In ys)) us ds ∧ ds.length = i ∧ (i = 0 ∧ d = 0 ∨ Run ds d))
    ⟨rfl, rfl, 0, t, [], [], 0, [], rfl, rfl, .nil, rfl, .inl ⟨rfl, rfl⟩⟩ ?_ ?_
  · intro i tk m zs s io hlt hJ S
    refine hideQ2 ?_; intro Qb hQb
    obtain ⟨m1, m2, d, tkd, us, ds, n, ys, m3, rfl, hF, hL, hR⟩ := hJ
    refine asN ?_
    refine stL S ?_; intro s S
    refine sAsg ?_
    refine wpAny_BinOp ?_
    refine Subscript_ ?_
    refine List_ ?_
    refine spC ?_
    refine cI S ?_; intro t1 s S
    refine spC ?_
    refine cI S ?_; intro t2 s S
    refine spC ?_
    refine cI S ?_; intro t3 s S
    refine spC ?_
    refine cI S ?_; intro t4 s S
    refine spC ?_
    refine cI S ?_; intro t5 s S
    refine spC ?_
    refine cI S ?_; intro t6 s S
    refine spC ?_
    refine cI S ?_; intro t7 s S
    refine spN ?_
    refine nwL S ?_; intro q s S
    refine nmL S rfl ?_
    have hb : ∃ b tb, [Value.int 0 t1, .int 60 t2, .int 1 t3, .int 61 t4, .int 120 t5, .int 61 t6, .int 2 t7][(0 + (i : Int)).toNat]? = some (.int b tb) := by
      have : i = 0 ∨ i = 1 ∨ i = 2 ∨ i = 3 ∨ i = 4 ∨ i = 5 ∨ i = 6 := by (first | lia | omega)
      rcases this with rfl | rfl | rfl | rfl | rfl | rfl | rfl <;> exact ⟨_, _, rfl⟩
    obtain ⟨b, tb, hb⟩ := hb
    refine itL (isL S (.head _)) (by (first | lia | omega)) hb ?_ (by (first | lia | omega))
    replace S := S.drop1
    refine cB1 (id := "sum") ?_
    refine nmB S GL hmg2 (by rfl) ?_
    refine ⟨rfl, ?_⟩
    refine Subscript_ ?_
    refine nmL S (by exact m1) ?_
    refine wpAny_Slice ?_
    refine wpAny_evalPart_some ?_
    refine nmL S rfl ?_
    refine wpAny_evalPart_none ?_
    refine wpAny_evalPart_some ?_
    refine cI S ?_; intro t8 s S
    refine slL S (isLb S hs) (.int _ _) .none (.int _ _) (by decide) (Nat.le_trans hlen (by decide)) ?_
    intro D s S
    obtain ⟨ms, hms⟩ := ints_pick hi (some (0 + (i : Int))) none (some 7)
    refine sumL S hh' (isL S (.head _)) hms ?_; intro t9 s S
    replace S := S.drop1
    refine iAdd S ?_; intro t10 s S
    refine stL S ?_; intro s S
    generalize b + ms.sum = x at S
    refine sIfJ (fun s' => ∃ m' d' tk', St (Bs.of s₀) L m' ((I, io) :: (l, lob us n) :: ys) s' ∧ m' "k" = some (.int (0 + (i : Int)) tk) ∧ m' "script" = some (.ref sc) ∧ m' "calls" = some (.ref l) ∧ m' "x" = some (.int x t10) ∧ m' "deep" = some (.int d' tk') ∧
      (i = 0 ∧ d' = 0 ∨ 0 < i ∧ Run ds d ∧ 1 ≤ d' ∧ d' ≤ d + 1)) ?_ ?_
    · refine hideQ ?_; intro Qi hQi
      refine wpAny_isTrue_Compare1 ?_
      refine nmL S rfl ?_
      refine cI S ?_; intro t11 s S
      refine gtI ?_
      refine tB (hQi _ _ ?_)
      by_cases hi0 : i = 0
      · subst hi0
        have hd0 : d = 0 := by
          rcases hR with h | h
          · exact h.2
          · have h7 := hL; cases h <;> simp at h7
        rw [if_neg (by simp)]
        refine wpAny_execs_nil ⟨rfl, ?_⟩
        exact ⟨_, d, tkd, S, rfl, m1, m2, rfl, m3, .inl ⟨rfl, hd0⟩⟩
      · have hRun : Run ds d := hR.elim (fun h => absurd h.1 hi0) id
        have hd0 := hRun.nonneg
        rw [if_pos (by simp; (first | lia | omega))]
        refine hideQ ?_; intro Qj hQj
        refine sAsg ?_
        refine wpAny_BinOp ?_
        refine cI S ?_; intro t12 s S
        refine wpAny_BinOp ?_
        refine nmL S rfl ?_
        refine wpAny_BinOp ?_
        refine nmL S (by exact m3) ?_
        refine cI S ?_; intro t13 s S
        refine iAdd S ?_; intro t14 s S
        refine iMod S (by (first | lia | omega)) ?_; intro t15 s S
        refine iAdd S ?_; intro t16 s S
        refine stL S ?_; intro s S
        refine wpAny_execs_nil (hQj _ _ ⟨rfl, ?_⟩)
        have h1 := Int.fmod_nonneg_of_pos x (show 0 < d + 1 by (first | lia | omega))
        have h2 := Int.fmod_lt_of_pos x (show 0 < d + 1 by (first | lia | omega))
        exact ⟨_, _, t16, S, rfl, m1, m2, rfl, rfl, .inr ⟨by (first | lia | omega), hRun, by (first | lia | omega), by (first | lia | omega)⟩⟩
    · rintro s ⟨m', d', tk', S, e1, e2, e3, e4, e5, hc⟩
      refine sExp ?_
      refine meth ?_
      refine nmL S e3 ?_
      refine gmAppend (S.get (.tail _ (.head _))) ?_
      refine Tuple_ ?_
      refine spC ?_
      refine nmL S e5 ?_
      refine spC ?_
      refine Subscript_ ?_
      refine cS S ?_; intro t20 s S
      refine wpAny_BinOp ?_
      refine wpAny_BinOp ?_
      refine nmL S e4 ?_
      refine cI S ?_; intro t21 s S
      refine iDiv S (by decide) ?_ (.inl (PyProof.noPylong_of_log2 (by decide +kernel))); intro t22 s S
      refine cI S ?_; intro t23 s S
      refine iMod S (by decide) ?_; intro t24 s S
      have h1 := Int.fmod_nonneg_of_pos (x.fdiv 60) (show (0 : Int) < 3 by decide)
      have h2 := Int.fmod_lt_of_pos (x.fdiv 60) (show (0 : Int) < 3 by decide)
      have hl3 : (Str.ofString "fgh").length = 3 := by decide +kernel
      refine itS S (by rw [hl3]; (first | lia | omega)) (by rw [hl3]; (first | lia | omega)) (by rw [hl3]; decide) ?_; intro t25 s S
      have hok := okN_item _ h1 h2
      generalize Txt.item (Str.ofString "fgh") ((x.fdiv 60).fmod 3) = nm at *
      refine spN ?_
      refine nwT S ?_; intro q s S
      have hul : us.length ≤ sizeLine := by rw [hF.len, hL]; exact Nat.le_trans (show i ≤ 7 by (first | lia | omega)) (by decide)
      refine apL S (.tail (.tail .head)) ?_ hul; intro s S
      refine wpAny_execs_nil (hQb _ _ ?_)
      refine (.inl ⟨rfl, m', (l, lob (us ++ [.ref q]) (n + 1)) :: (q, tob [.int d' tk', .str nm t25]) :: ys, ?_, e2, e3, d', tk', us ++ [.ref q], ds ++ [(d', nm)], n + 1, (q, tob [.int d' tk', .str nm t25]) :: ys, e5, rfl, ?_, by simp [hL], .inr ?_⟩)
      · exact S.down2
      · exact (hF.mono fun v p ⟨t, a, b, e, hm⟩ => ⟨t, a, b, e, .tail _ hm⟩).app (.cons ⟨q, tk', t25, rfl, .head _⟩ .nil)
      · rcases hc with ⟨rfl, rfl⟩ | ⟨_, hRn, h3, h4⟩
        · have : ds = [] := List.length_eq_zero_iff.mp hL
          subst this
          exact .one hok
        · exact .step hRn h3 h4 hok
  · rintro m zs s ⟨m1, m2, d, tkd, us, ds, n, ys, m3, rfl, hF, hL, hR⟩ S
    refine sRet ?_
    refine nmL S m2 ?_
    refine hQf _ _ ?_
    refine ⟨_, _, rfl, S.grows, l, us, ds, d, n, rfl, .head _, hF.mono fun v p ⟨t, a, b, e, hm⟩ => ⟨t, a, b, e, .tail _ hm⟩, ?_, hL⟩
    rcases hR with h | h
    · exact absurd h.1 (by decide)
    · exact h
end
end Mine
end
section
open PySem PySem.W PyProof.Rows PySem.Calls
set_option maxRecDepth 100000
set_option maxHeartbeats 2000000
namespace Mine
section
variable {w : World} {A : Around} {E : Value → Shared → Prop} {s : Shared} {B : Bs} {L a : Addr} {m mg : Str → Option Value} {zs : List (Addr × Obj)} {cn : Str} {cs : Scope} {ccd : Value} {cl : List (Str × Addr)} {R : Result → Shared → Prop} {env : Env}
/-- something that can be called -/
def IsFun (h : Heap) (k : Addr) : Prop := ∃ o fd, h.get? k = some o ∧ o.data = .func fd
theorem FnD.isFun {h : Heap} {f n q d dV kV} (x : FnD h f n q d dV kV) : IsFun h f := let ⟨o, _, _, _, _, _, h1, h2, _⟩ := x; ⟨o, _, h1, h2⟩
/-- a call's node: a name, plain arguments, keywords -/
theorem callN {x : Str} {p pos : Pos} {e : Expr} {es : List Expr} {kws : List Keyword} {f : Addr} {Q : Value → Shared → Prop} (hf : IsFun B.h f)
    (h : wpAny (model prog w) A (eval (.Name x p) env) (fun v s₁ => v = .ref f ∧ wpAny (model prog w) A (spliced (backTo pos (starEach (e :: es) env))) (fun vs s₂ => wpAny (model prog w) A (evalAll ((backToKw pos (keywordEach kws env)).map (·.2)))
      (fun ks s₃ => (∃ m zs, St B L m zs s₃) ∧ wpAny (model prog w) A (call (.ref f) vs (((backToKw pos (keywordEach kws env)).filterMap (·.1)).zip ks)) Q E s₃) E s₂) E s₁) E s)
    (hall : (backToKw pos (keywordEach kws env)).all (·.1.isSome) = true := by rfl)
    (hs : starEach (e :: es) env = (false, eval e env) :: starEach es env := by rfl) : wpAny (model prog w) A (eval (.Call (.Name x p) (e :: es) kws pos) env) Q E s := by
  obtain ⟨o, fd, h1, h2⟩ := hf
  refine wpAny_Call_Name_kw (wpAny_mono h (fun v s₁ ⟨e1, h'⟩ => ?_) fun _ _ x => x)
  subst e1
  refine callWith_function_kw (o := o) (fd := fd) ?_
  rw [hs] at h' ⊢
  refine evalArgs_kw hall (wpAny_mono h' (fun vs s₂ h2' => wpAny_mono h2' (fun ks s₃ ⟨⟨m', zs', S'⟩, h3⟩ => ?_) fun _ _ x => x) fun _ _ x => x)
  exact ⟨⟨S'.base h1, h2⟩, h3⟩
theorem BindsTo.of_dk {s : Shared} {fd : FuncData} {args : Args} {binds : List (Str × Value)} {T D : Addr} {o : Obj} {items : Array Value} {n : Nat} {md : Str → Option Value} {nm : Str} {v : Value}
    {k : Option (Array Value) → Sem (List (Str × Value))} {k2 : Option Value → Sem (List (Str × Value))} (hd : fd.defaults = .ref T) (ho : s.heap.get? T = some o) (hs : o.data = .seq items n)
    (hD : s.heap.Ns D md) (hv : md nm = some v)
    (h₁ : bindArgs fd args = seqItems? fd.defaults >>= k) (h₂ : k (some items) = nsGet D nm >>= k2) (h₃ : k2 (some v) = pure binds) : BindsTo s fd args binds :=
  fun _ _ _ _ hq => by
    rw [h₁, hd]
    exact wpAny_bind (wpAny_seqItems ho hs (h₂ ▸ wpAny_bind (wpAny_nsGet hD (by rw [hv]; exact h₃ ▸ wpAny_pure hq))))
/-- the defaults of the three functions of bisect -/
def Dfl (h : Heap) (dV kV : Value) : Prop := ∃ T D o tk n md, dV = .ref T ∧ h.get? T = some o ∧ o.data = .seq #[.int 0 tk, .none] n ∧ kV = .ref D ∧ h.Ns D md ∧ md "key" = some .none
def bisR (g : Nat → Int) (x : Int) : Nat → Nat → Nat → Nat
  | 0, lo, _ => lo
  | f + 1, lo, hi => if lo < hi then (if x < g ((lo + hi) / 2) then bisR g x f lo ((lo + hi) / 2) else bisR g x f ((lo + hi) / 2 + 1) hi) else lo
def bisL (g : Nat → Int) (x : Int) : Nat → Nat → Nat → Nat
  | 0, lo, _ => lo
  | f + 1, lo, hi => if lo < hi then (if g ((lo + hi) / 2) < x then bisL g x f ((lo + hi) / 2 + 1) hi else bisL g x f lo ((lo + hi) / 2)) else lo
theorem bisR_fuel (g : Nat → Int) (x : Int) : ∀ (f f' lo hi : Nat), hi - lo ≤ f → hi - lo ≤ f' → bisR g x f lo hi = bisR g x f' lo hi
  | 0, 0, _, _, _, _ => rfl
  | 0, f' + 1, lo, hi, h, _ => by simp only [bisR]; rw [if_neg (by (first | lia | omega))]
  | f + 1, 0, lo, hi, _, h => by simp only [bisR]; rw [if_neg (by (first | lia | omega))]
  | f + 1, f' + 1, lo, hi, h, h' => by
    simp only [bisR]
    split
    · split
      · exact bisR_fuel g x f f' _ _ (by (first | lia | omega)) (by (first | lia | omega))
      · exact bisR_fuel g x f f' _ _ (by (first | lia | omega)) (by (first | lia | omega))
    · rfl
theorem bisL_fuel (g : Nat → Int) (x : Int) : ∀ (f f' lo hi : Nat), hi - lo ≤ f → hi - lo ≤ f' → bisL g x f lo hi = bisL g x f' lo hi
  | 0, 0, _, _, _, _ => rfl
  | 0, f' + 1, lo, hi, h, _ => by simp only [bisL]; rw [if_neg (by (first | lia | omega))]
  | f + 1, 0, lo, hi, _, h => by simp only [bisL]; rw [if_neg (by (first | lia | omega))]
  | f + 1, f' + 1, lo, hi, h, h' => by
    simp only [bisL]
    split
    · split
      · exact bisL_fuel g x f f' _ _ (by (first | lia | omega)) (by (first | lia | omega))
      · exact bisL_fuel g x f f' _ _ (by (first | lia | omega)) (by (first | lia | omega))
    · rfl
end
end Mine
end
section
open PySem PySem.W PyProof.Rows PySem.Calls
set_option maxRecDepth 100000
set_option maxHeartbeats 2000000
namespace Mine
/-- what the written part of the heap says of the one class -/
structure Kc (K : Frag) (C fI fC : Addr) : Prop where
  mki : makesIn K C = true
  ini : findIn K (.ref C) "__init__" = some (some (.ref fI))
  inif : isFn K (.ref fI) = true
  pg : plainGet K C "compare" = true
  cmp : findIn K (.ref C) "compare" = some (some (.ref fC))
  cmpf : isFn K (.ref fC) = true
  hd : hasDictIn K C = true
  no : findIn K (.ref C) "comp_select_list" = some none
  sa : findIn K (.ref C) "__setattr__" = some (some (.builtin "object.__setattr__"))
  po : plainOver K C = true
  tk : takerIn K C "comp_select_list" = some none
/-- a comparer in the heap: first the first column upwards, then the second by way -/
def Comp (R : Addr → Obj → Prop) (x C : Addr) (way : Int) : Prop :=
  ∃ dx e n T T0 T1 a b c d, R x (instObj C dx) ∧ R dx (dictOf [e] n) ∧ (∃ tk, e.key = .str "comp_select_list" tk) ∧ e.val = .ref T ∧ R T (tob [.ref T0, .ref T1]) ∧ R T0 (tob [.int 0 a, .int 1 b]) ∧ R T1 (tob [.int 1 c, .int way d])
theorem Comp.mono {R R' : Addr → Obj → Prop} {x C way} (h : Comp R x C way) (hm : ∀ a o, R a o → R' a o) : Comp R' x C way := by
  obtain ⟨dx, e, n, T, T0, T1, a, b, c, d, h1, h2, h3, h4, h5, h6, h7⟩ := h
  exact ⟨dx, e, n, T, T0, T1, a, b, c, d, hm _ _ h1, hm _ _ h2, h3, h4, hm _ _ h5, hm _ _ h6, hm _ _ h7⟩
def cmpF (way : Int) (p q : Int × Int) : Int :=
  if p.1 < q.1 then -1 else if q.1 < p.1 then 1 else if p.2 < q.2 then -way else if q.2 < p.2 then way else 0
/-- a tuple that opens with two ints -/
def Row2 (h : Heap) (v : Value) (p : Int × Int) : Prop := ∃ (t : Addr) (vs : List Value), v = .ref t ∧ IsTup h t vs.toArray ∧ (∃ a, vs[0]? = some (.int p.1 a)) ∧ ∃ b, vs[1]? = some (.int p.2 b)
section
variable {w : World} {A : Around} {s₀ : Shared} {mg : Str → Option Value} {K : Frag} {C fI fC : Addr}
theorem compare_spec {x : Addr} {way : Int} {l r : Value} {p q : Int × Int} (GL : Gl mg s₀.heap) (X : K.In s₀.heap) (Y : Kc K C fI fC) (hfn : FnD s₀.heap fC "compare" "TupleComp.compare" (methAt 1) .none .none) (hA : Rm A 1)
    (hx : Comp (On s₀.heap) x C way) (hl : Row2 s₀.heap l p) (hr : Row2 s₀.heap r q) :
    Tells w A (.ref fC) ⟨[.ref x, l, r], []⟩ (fun v ys => ∃ t, v = .int (cmpF way p q) t) s₀ := by
  obtain ⟨dx, e, n, T, T0, T1, ta, tb, tc, td, h1, h2, ⟨ek, h3⟩, h4, h5, h6, h7⟩ := hx
  obtain ⟨lt, ls, rfl, hl1, ⟨la, hl2⟩, lb, hl3⟩ := hl
  obtain ⟨rt, rs, rfl, hr1, ⟨ra, hr2⟩, rb, hr3⟩ := hr
  refine callDef0 [("self", .ref x), ("left", .ref lt), ("right", .ref rt)] hfn GL.lim hA (fun _ _ _ _ _ => BindsTo.of_eq rfl) ?_
  intro A' L cd s hA' S
  have hh' := hA'.hh
  refine sFor ?_
  refine Attribute_Name_ ?_
  refine nmL S rfl ?_
  refine get_own S.F X ⟨S.base h1, rfl, rfl, S.base h2⟩ Y.pg Y.hd Y.no rfl (v := .ref T) ?_ rfl ?_
  · unfold getL
    rw [List.find?_cons_of_pos (by rw [h3]; rfl)]
    show some (some e.val) = _
    rw [h4]
  replace S := S.tk (s.toks + 1)
  refine wpAny_pyIter_tuple (items := #[.ref T0, .ref T1]) ⟨_, S.base h5, rfl, 0, rfl⟩ ?_
  replace S := S.alloc { cls := .type "tuple_iterator", data := .fields #[.ref T, .int 0 0] } (s.toks + 1)
  refine forT (items := [.ref T0, .ref T1]) hh' S rfl (fun i m zs => zs = [] ∧ m "left" = some (.ref lt) ∧ m "right" = some (.ref rt) ∧ (1 ≤ i → p.1 = q.1) ∧ (2 ≤ i → p.2 = q.2)) ⟨rfl, rfl, rfl, by (first | lia | omega), by (first | lia | omega)⟩ ?_ ?_ ?_
  · intro i m' zs' s' _ S'
    exact ⟨_, S'.base h5, rfl, 0, rfl⟩
  · rintro i v m zs s io hv ⟨rfl, m1, m2, hp1, hp2⟩ S
    have hcase : (i = 0 ∧ v = .ref T0) ∨ (i = 1 ∧ v = .ref T1) := by
      match i, hv with
      | 0, hv => exact .inl ⟨rfl, by simpa using hv.symm⟩
      | 1, hv => exact .inr ⟨rfl, by simpa using hv.symm⟩
      | i + 2, hv => simp at hv
    rcases hcase with ⟨rfl, rfl⟩ | ⟨rfl, rfl⟩
    · refine unT S hh' (isTb S ⟨_, h6, rfl, 0, rfl⟩) rfl rfl ?_; intro s S
      refine aio ?_
      refine stL S ?_; intro s S
      refine aio ?_
      refine stL S ?_; intro s S
      refine aio0 ?_
      refine sAsg ?_
      refine Subscript_ ?_
      refine nmL S (by exact m1) ?_
      refine nmL S rfl ?_
      refine itT (isTb S hl1) (by decide) hl2 ?_ (by decide)
      refine stL S ?_; intro s S
      refine sAsg ?_
      refine Subscript_ ?_
      refine nmL S (by exact m2) ?_
      refine nmL S rfl ?_
      refine itT (isTb S hr1) (by decide) hr2 ?_ (by decide)
      refine stL S ?_; intro s S
      refine sIf ?_
      refine wpAny_isTrue_Compare1 ?_
      refine nmL S rfl ?_
      refine nmL S rfl ?_
      refine ltI ?_
      refine tB ?_
      by_cases c1 : p.1 < q.1
      · rw [if_pos (decide_eq_true c1)]
        refine sRet ?_
        refine wpAny_UnaryOp ?_
        refine nmL S rfl ?_
        refine iNeg S ?_; intro t s S
        exact .inr ⟨_, rfl, _, _, rfl, S.grows, t, by rw [cmpF, if_pos c1]⟩
      · rw [if_neg (by simpa using c1)]
        refine wpAny_execs_nil ?_
        refine sIf ?_
        refine wpAny_isTrue_Compare1 ?_
        refine nmL S rfl ?_
        refine nmL S rfl ?_
        refine gtI ?_
        refine tB ?_
        by_cases c2 : q.1 < p.1
        · rw [if_pos (decide_eq_true c2)]
          refine sRet ?_
          refine nmL S rfl ?_
          exact .inr ⟨_, rfl, _, _, rfl, S.grows, _, by rw [cmpF, if_neg c1, if_pos c2]⟩
        · rw [if_neg (by simpa using c2)]
          refine wpAny_execs_nil ?_
          refine wpAny_execs_nil (.inl ⟨rfl, _, _, S, rfl, m1, m2, fun _ => by (first | lia | omega), by (first | lia | omega)⟩)
    · have e1 := hp1 (by (first | lia | omega))
      refine unT S hh' (isTb S ⟨_, h7, rfl, 0, rfl⟩) rfl rfl ?_; intro s S
      refine aio ?_
      refine stL S ?_; intro s S
      refine aio ?_
      refine stL S ?_; intro s S
      refine aio0 ?_
      refine sAsg ?_
      refine Subscript_ ?_
      refine nmL S (by exact m1) ?_
      refine nmL S rfl ?_
      refine itT (isTb S hl1) (by decide) hl3 ?_ (by decide)
      refine stL S ?_; intro s S
      refine sAsg ?_
      refine Subscript_ ?_
      refine nmL S (by exact m2) ?_
      refine nmL S rfl ?_
      refine itT (isTb S hr1) (by decide) hr3 ?_ (by decide)
      refine stL S ?_; intro s S
      refine sIf ?_
      refine wpAny_isTrue_Compare1 ?_
      refine nmL S rfl ?_
      refine nmL S rfl ?_
      refine ltI ?_
      refine tB ?_
      by_cases c1 : p.2 < q.2
      · rw [if_pos (decide_eq_true c1)]
        refine sRet ?_
        refine wpAny_UnaryOp ?_
        refine nmL S rfl ?_
        refine iNeg S ?_; intro t s S
        exact .inr ⟨_, rfl, _, _, rfl, S.grows, t, by rw [cmpF, if_neg (by (first | lia | omega)), if_neg (by (first | lia | omega)), if_pos c1]⟩
      · rw [if_neg (by simpa using c1)]
        refine wpAny_execs_nil ?_
        refine sIf ?_
        refine wpAny_isTrue_Compare1 ?_
        refine nmL S rfl ?_
        refine nmL S rfl ?_
        refine gtI ?_
        refine tB ?_
        by_cases c2 : q.2 < p.2
        · rw [if_pos (decide_eq_true c2)]
          refine sRet ?_
          refine nmL S rfl ?_
          exact .inr ⟨_, rfl, _, _, rfl, S.grows, _, by rw [cmpF, if_neg (by (first | lia | omega)), if_neg (by (first | lia | omega)), if_neg c1, if_pos c2]⟩
        · rw [if_neg (by simpa using c2)]
          refine wpAny_execs_nil ?_
          refine wpAny_execs_nil (.inl ⟨rfl, _, _, S, rfl, m1, m2, fun _ => e1, fun _ => by (first | lia | omega)⟩)
  · rintro m zs s ⟨rfl, m1, m2, hp1, hp2⟩ S
    refine sRet ?_
    refine cI S ?_; intro t s S
    have e1 := hp1 (by simp)
    have e2 := hp2 (by simp)
    exact ⟨_, _, rfl, S.grows, t, by rw [cmpF, if_neg (by (first | lia | omega)), if_neg (by (first | lia | omega)), if_neg (by (first | lia | omega)), if_neg (by (first | lia | omega))]⟩
end
end Mine
end
section
open PySem PySem.W PyProof.Rows PySem.Calls
set_option maxRecDepth 100000
set_option maxHeartbeats 2000000
namespace Mine
section
variable {w : World} {A : Around} {E : Value → Shared → Prop} {s : Shared} {env : Env}
theorem cN {k : Nat} {pos : Pos} {Q : Value → Shared → Prop} (h : Q .none s) : wpAny (model prog w) A (eval (.Constant .none k pos) env) Q E s := wpAny_pure h
theorem isN {v : Value} {Q : Value → Shared → Prop} (h : Q (.bool (v == .none)) s) : wpAny (model prog w) A (compareOp .Is v .none) Q E s := is_none h
end
section
variable {w : World} {A : Around} {s₀ : Shared} {mg : Str → Option Value}
/-- the key's values at the items, told at any later state -/
def KeyOn (w : World) (B : Bs) (k : Nat) (key : Addr) (vs : List Value) (g : Nat → Int) : Prop :=
  ∀ A'' s', Rm A'' k → (∀ b o, B.h.get? b = some o → s'.heap.get? b = some o) → s'.gens = B.g → s'.os = B.o → ∀ i v, vs[i]? = some v → Tells w A'' (.ref key) ⟨[v], []⟩ (fun r _ => ∃ t, r = .int (g i) t) s'
theorem KeyOn.mono {B B' : Bs} {k key vs g} (h : KeyOn w B k key vs g) (hk : ∀ b o, B.h.get? b = some o → B'.h.get? b = some o) (hg : B'.g = B.g) (ho : B'.o = B.o) : KeyOn w B' k key vs g :=
  fun A s r k' g' o' i v hv => h A s r (fun b o e => k' b o (hk b o e)) (g'.trans hg) (o'.trans ho) i v hv
theorem KeyOn.le {B : Bs} {k j key vs g} (h : KeyOn w B k key vs g) (hj : k ≤ j) : KeyOn w B j key vs g := fun A s r => h A s (r.le hj)
theorem bisr_spec {f a key : Addr} {vs : List Value} {x : Int} {g : Nat → Int} {dV kV : Value} {k : Nat} {t t' : Tok} (GL : Gl mg s₀.heap) (hmg : mg "len" = none) (hfn : Fn s₀.heap f "bisect_right" 7 dV kV) (hdf : Dfl s₀.heap dV kV) (hA : Rm A (k + 1))
    (ha : s₀.heap.IsList a vs.toArray) (hlen : vs.length ≤ 1000) (hkf : IsFun s₀.heap key) (hkey : KeyOn w (Bs.of s₀) k key vs g) :
    Tells w A (.ref f) ⟨[.ref a, .int x t, .int 0 t', .none], [("key", .ref key)]⟩ (fun v _ => ∃ t, v = .int (bisR g x vs.length 0 vs.length) t) s₀ := by
  obtain ⟨T, D, o, tk0, n0, md, rfl, hT1, hT2, rfl, hD1, hD2⟩ := hdf
  refine callDef0 [("a", .ref a), ("x", .int x t), ("lo", .int 0 t'), ("hi", .none), ("key", .ref key)] hfn GL.lim hA (fun _ _ _ _ _ => BindsTo.of_defaults rfl hT1 hT2 rfl rfl) ?_
  intro A' L cd s hA' S
  refine hideQ ?_; intro Qf hQf
  have hh' := hA'.hh
  refine sIf ?_
  refine hideQ ?_; intro Qi hQi
  refine wpAny_isTrue_Compare1 ?_
  refine nmL S rfl ?_
  refine cI S ?_; intro t1 s S
  refine ltI ?_
  refine tB (hQi _ _ ?_)
  rw [if_neg (by decide)]
  refine wpAny_execs_nil ?_
  refine sIf ?_
  refine hideQ ?_; intro Qi hQi
  refine wpAny_isTrue_Compare1 ?_
  refine nmL S rfl ?_
  refine cN ?_
  refine isN ?_
  refine tB (hQi _ _ ?_)
  rw [if_pos (by decide)]
  refine sAsg ?_
  refine cB1 (id := "len") ?_
  refine nmB S GL hmg (by rfl) ?_
  refine ⟨rfl, ?_⟩
  refine nmL S rfl ?_
  refine lenL S (isLb S ha) (by (first | lia | omega)) ?_; intro t2 s S
  refine stL S ?_; intro s S
  refine wpAny_execs_nil ?_
  refine sIf ?_
  refine hideQ ?_; intro Qi hQi
  refine wpAny_isTrue_Compare1 ?_
  refine nmL S rfl ?_
  refine cN ?_
  refine isN ?_
  refine tB (hQi _ _ ?_)
  rw [if_neg (by simp)]
  refine sWhile (fun n s => ∃ lo hi tl th m, St (Bs.of s₀) L m [] s ∧ m "lo" = some (.int (lo : Nat) tl) ∧ m "hi" = some (.int (hi : Nat) th) ∧ m "a" = some (.ref a) ∧ m "x" = some (.int x t) ∧ m "key" = some (.ref key) ∧ hi ≤ vs.length ∧ n = hi - lo ∧ bisR g x (hi - lo) lo hi = bisR g x vs.length 0 vs.length) (vs.length - 0)
    ⟨0, vs.length, t', t2, _, S, rfl, rfl, rfl, rfl, rfl, Nat.le_refl _, rfl, rfl⟩ ?_
  intro n s hJ
  refine hideQ ?_; intro Qi hQi
  obtain ⟨lo, hi, tl, th, m, S, m1, m2, m3, m4, m5, hhi, rfl, hbis⟩ := hJ
  refine wpAny_isTrue_Compare1 ?_
  refine nmL S m1 ?_
  refine nmL S m2 ?_
  refine ltI ?_
  refine tB (hQi _ _ ?_)
  by_cases hlt : lo < hi
  · rw [if_pos (by simp; (first | lia | omega))]
    refine hideQ ?_; intro Qb hQb
    refine sAsg ?_
    refine wpAny_BinOp ?_
    refine wpAny_BinOp ?_
    refine nmL S m1 ?_
    refine nmL S m2 ?_
    refine iAdd S ?_; intro t3 s S
    refine cI S ?_; intro t4 s S
    refine iDiv S (by decide) ?_ (.inl (PyProof.noPylong_of_log2 (by decide +kernel))); intro t5 s S
    refine stL S ?_; intro s S
    have hmid : ((lo : Int) + hi).fdiv 2 = (((lo + hi) / 2 : Nat) : Int) := by rw [Int.fdiv_eq_ediv_of_nonneg _ (by decide)]; (first | lia | omega)
    rw [hmid] at S
    have hml : (lo + hi) / 2 < vs.length := by (first | lia | omega)
    obtain ⟨v, hv⟩ : ∃ v, vs[(lo + hi) / 2]? = some v := ⟨_, List.getElem?_eq_getElem hml⟩
    have hbis' : bisR g x (hi - lo) lo hi = if x < g ((lo + hi) / 2) then bisR g x ((lo + hi) / 2 - lo) lo ((lo + hi) / 2) else bisR g x (hi - ((lo + hi) / 2 + 1)) ((lo + hi) / 2 + 1) hi := by
      obtain ⟨d, hd⟩ : ∃ d, hi - lo = d + 1 := ⟨hi - lo - 1, by (first | lia | omega)⟩
      rw [hd]
      simp only [bisR, if_pos hlt]
      split
      · exact bisR_fuel _ _ _ _ _ _ (by (first | lia | omega)) (by (first | lia | omega))
      · exact bisR_fuel _ _ _ _ _ _ (by (first | lia | omega)) (by (first | lia | omega))
    refine sIf ?_
    refine hideQ ?_; intro Qi hQi
    refine wpAny_isTrue_Compare1 ?_
    refine nmL S (by exact m4) ?_
    refine callN (B := Bs.of s₀) (L := L) hkf ?_
    refine nmL S (by exact m5) ?_
    refine ⟨rfl, ?_⟩
    refine spC ?_
    refine Subscript_ ?_
    refine nmL S (by exact m3) ?_
    refine nmL S rfl ?_
    refine itL (isLb S ha) (by (first | lia | omega)) (v := v) (by rw [Int.toNat_natCast]; exact hv) ?_ (by (first | lia | omega))
    refine spN ?_
    refine kwAll_nil ?_
    refine ⟨⟨_, _, S⟩, ?_⟩
    refine callC S (hkey A' s hA' S.F.keep S.G S.O _ v hv) ?_
    rintro r ys s ⟨t6, rfl⟩ S
    replace S := S.sub (List.nil_sublist _)
    refine ltI ?_
    refine tB (hQi _ _ ?_)
    by_cases hx : x < g ((lo + hi) / 2)
    · rw [if_pos (decide_eq_true hx)]
      refine sAsg ?_
      refine nmL S rfl ?_
      refine stL S ?_; intro s S
      refine wpAny_execs_nil ?_
      refine wpAny_execs_nil (hQb _ _ ?_)
      refine ⟨rfl, (lo + hi) / 2 - lo, by (first | lia | omega), lo, (lo + hi) / 2, tl, t5, _, S, m1, rfl, m3, m4, m5, by (first | lia | omega), rfl, ?_⟩
      rw [← hbis, hbis', if_pos hx]
    · rw [if_neg (by simpa using hx)]
      refine sAsg ?_
      refine wpAny_BinOp ?_
      refine nmL S rfl ?_
      refine cI S ?_; intro t7 s S
      refine iAdd S ?_; intro t8 s S
      refine stL S ?_; intro s S
      refine wpAny_execs_nil ?_
      refine wpAny_execs_nil (hQb _ _ ?_)
      refine ⟨rfl, hi - ((lo + hi) / 2 + 1), by (first | lia | omega), (lo + hi) / 2 + 1, hi, t8, th, _, S, by simp, m2, m3, m4, m5, by (first | lia | omega), rfl, ?_⟩
      rw [← hbis, hbis', if_neg hx]
  · rw [if_neg (by simp; (first | lia | omega))]
    refine wpAny_execs_nil ?_
    refine sRet ?_
    refine nmL S m1 ?_
    have : bisR g x (hi - lo) lo hi = lo := by rw [show hi - lo = 0 by (first | lia | omega)]; rfl
    refine hQf _ _ ?_
    exact ⟨_, _, rfl, S.grows, tl, by rw [← hbis, this]⟩
theorem bisl_spec {f a key : Addr} {vs : List Value} {x : Int} {g : Nat → Int} {dV kV : Value} {k : Nat} {t : Tok} (GL : Gl mg s₀.heap) (hmg : mg "len" = none) (hfn : Fn s₀.heap f "bisect_left" 8 dV kV) (hdf : Dfl s₀.heap dV kV) (hA : Rm A (k + 1))
    (ha : s₀.heap.IsList a vs.toArray) (hlen : vs.length ≤ 1000) (hkf : IsFun s₀.heap key) (hkey : KeyOn w (Bs.of s₀) k key vs g) :
    Tells w A (.ref f) ⟨[.ref a, .int x t], [("key", .ref key)]⟩ (fun v _ => ∃ t, v = .int (bisL g x vs.length 0 vs.length) t) s₀ := by
  obtain ⟨T, D, o, tk0, n0, md, rfl, hT1, hT2, rfl, hD1, hD2⟩ := hdf
  refine callDef0 [("a", .ref a), ("x", .int x t), ("lo", .int 0 tk0), ("hi", .none), ("key", .ref key)] hfn GL.lim hA (fun _ _ _ _ _ => BindsTo.of_defaults rfl hT1 hT2 rfl rfl) ?_
  intro A' L cd s hA' S
  refine hideQ ?_; intro Qf hQf
  have hh' := hA'.hh
  refine sIf ?_
  refine hideQ ?_; intro Qi hQi
  refine wpAny_isTrue_Compare1 ?_
  refine nmL S rfl ?_
  refine cI S ?_; intro t1 s S
  refine ltI ?_
  refine tB (hQi _ _ ?_)
  rw [if_neg (by decide)]
  refine wpAny_execs_nil ?_
  refine sIf ?_
  refine hideQ ?_; intro Qi hQi
  refine wpAny_isTrue_Compare1 ?_
  refine nmL S rfl ?_
  refine cN ?_
  refine isN ?_
  refine tB (hQi _ _ ?_)
  rw [if_pos (by decide)]
  refine sAsg ?_
  refine cB1 (id := "len") ?_
  refine nmB S GL hmg (by rfl) ?_
  refine ⟨rfl, ?_⟩
  refine nmL S rfl ?_
  refine lenL S (isLb S ha) (by (first | lia | omega)) ?_; intro t2 s S
  refine stL S ?_; intro s S
  refine wpAny_execs_nil ?_
  refine sIf ?_
  refine hideQ ?_; intro Qi hQi
  refine wpAny_isTrue_Compare1 ?_
  refine nmL S rfl ?_
  refine cN ?_
  refine isN ?_
  refine tB (hQi _ _ ?_)
  rw [if_neg (by simp)]
  refine sWhile (fun n s => ∃ lo hi tl th m, St (Bs.of s₀) L m [] s ∧ m "lo" = some (.int (lo : Nat) tl) ∧ m "hi" = some (.int (hi : Nat) th) ∧ m "a" = some (.ref a) ∧ m "x" = some (.int x t) ∧ m "key" = some (.ref key) ∧ hi ≤ vs.length ∧ n = hi - lo ∧ bisL g x (hi - lo) lo hi = bisL g x vs.length 0 vs.length) (vs.length - 0)
    ⟨0, vs.length, tk0, t2, _, S, rfl, rfl, rfl, rfl, rfl, Nat.le_refl _, rfl, rfl⟩ ?_
  intro n s hJ
  refine hideQ ?_; intro Qi hQi
  obtain ⟨lo, hi, tl, th, m, S, m1, m2, m3, m4, m5, hhi, rfl, hbis⟩ := hJ
  refine wpAny_isTrue_Compare1 ?_
  refine nmL S m1 ?_
  refine nmL S m2 ?_
  refine ltI ?_
  refine tB (hQi _ _ ?_)
  by_cases hlt : lo < hi
  · rw [if_pos (by simp; (first | lia | omega))]
    refine hideQ ?_; intro Qb hQb
    refine sAsg ?_
    refine wpAny_BinOp ?_
    refine wpAny_BinOp ?_
    refine nmL S m1 ?_
    refine nmL S m2 ?_
    refine iAdd S ?_; intro t3 s S
    refine cI S ?_; intro t4 s S
    refine iDiv S (by decide) ?_ (.inl (PyProof.noPylong_of_log2 (by decide +kernel))); intro t5 s S
    refine stL S ?_; intro s S
    have hmid : ((lo : Int) + hi).fdiv 2 = (((lo + hi) / 2 : Nat) : Int) := by rw [Int.fdiv_eq_ediv_of_nonneg _ (by decide)]; (first | lia | omega)
    rw [hmid] at S
    have hml : (lo + hi) / 2 < vs.length := by (first | lia | omega)
    obtain ⟨v, hv⟩ : ∃ v, vs[(lo + hi) / 2]? = some v := ⟨_, List.getElem?_eq_getElem hml⟩
    have hbis' : bisL g x (hi - lo) lo hi = if g ((lo + hi) / 2) < x then bisL g x (hi - ((lo + hi) / 2 + 1)) ((lo + hi) / 2 + 1) hi else bisL g x ((lo + hi) / 2 - lo) lo ((lo + hi) / 2) := by
      obtain ⟨d, hd⟩ : ∃ d, hi - lo = d + 1 := ⟨hi - lo - 1, by (first | lia | omega)⟩
      rw [hd]
      simp only [bisL, if_pos hlt]
      split
      · exact bisL_fuel _ _ _ _ _ _ (by (first | lia | omega)) (by (first | lia | omega))
      · exact bisL_fuel _ _ _ _ _ _ (by (first | lia | omega)) (by (first | lia | omega))
    refine sIf ?_
    refine hideQ ?_; intro Qi hQi
    refine wpAny_isTrue_Compare1 ?_
    refine callN (B := Bs.of s₀) (L := L) hkf ?_
    refine nmL S (by exact m5) ?_
    refine ⟨rfl, ?_⟩
    refine spC ?_
    refine Subscript_ ?_
    refine nmL S (by exact m3) ?_
    refine nmL S rfl ?_
    refine itL (isLb S ha) (by (first | lia | omega)) (v := v) (by rw [Int.toNat_natCast]; exact hv) ?_ (by (first | lia | omega))
    refine spN ?_
    refine kwAll_nil ?_
    refine ⟨⟨_, _, S⟩, ?_⟩
    refine callC S (hkey A' s hA' S.F.keep S.G S.O _ v hv) ?_
    rintro r ys s ⟨t6, rfl⟩ S
    replace S := S.sub (List.nil_sublist _)
    refine nmL S (by exact m4) ?_
    refine ltI ?_
    refine tB (hQi _ _ ?_)
    by_cases hx : g ((lo + hi) / 2) < x
    · rw [if_pos (decide_eq_true hx)]
      refine sAsg ?_
      refine wpAny_BinOp ?_
      refine nmL S rfl ?_
      refine cI S ?_; intro t7 s S
      refine iAdd S ?_; intro t8 s S
      refine stL S ?_; intro s S
      refine wpAny_execs_nil ?_
      refine wpAny_execs_nil (hQb _ _ ?_)
      refine ⟨rfl, hi - ((lo + hi) / 2 + 1), by (first | lia | omega), (lo + hi) / 2 + 1, hi, t8, th, _, S, by simp, m2, m3, m4, m5, by (first | lia | omega), rfl, ?_⟩
      rw [← hbis, hbis', if_pos hx]
    · rw [if_neg (by simpa using hx)]
      refine sAsg ?_
      refine nmL S rfl ?_
      refine stL S ?_; intro s S
      refine wpAny_execs_nil ?_
      refine wpAny_execs_nil (hQb _ _ ?_)
      refine ⟨rfl, (lo + hi) / 2 - lo, by (first | lia | omega), lo, (lo + hi) / 2, tl, t5, _, S, m1, rfl, m3, m4, m5, by (first | lia | omega), rfl, ?_⟩
      rw [← hbis, hbis', if_neg hx]
  · rw [if_neg (by simp; (first | lia | omega))]
    refine wpAny_execs_nil ?_
    refine sRet ?_
    refine nmL S m1 ?_
    have : bisL g x (hi - lo) lo hi = lo := by rw [show hi - lo = 0 by (first | lia | omega)]; rfl
    refine hQf _ _ ?_
    exact ⟨_, _, rfl, S.grows, tl, by rw [← hbis, this]⟩
/-- bisect_left bound by its two plain arguments -/
def BindBL (K : Frag) (dV kV : Value) (tk0 : Tok) : Prop := ∀ (s' : Shared) (a : Addr) (x : Int) (t : Tok) (doc pm : Value) (an : Option Addr) (cd ct : Value), K.In s'.heap →
  BindsTo s' (fnOf "bisect_left" "bisect_left" (defAt 8).1 (defAt 8).2.1 (defAt 8).2.2 dV kV doc pm an cd ct) ⟨[.ref a, .int x t], []⟩ [("a", .ref a), ("x", .int x t), ("lo", .int 0 tk0), ("hi", .none), ("key", .none)]
theorem bisl0_spec {f a : Addr} {vs : List Value} {x : Int} {g : Nat → Int} {dV kV : Value} {k : Nat} {t tk0 : Tok} {K : Frag} (GL : Gl mg s₀.heap) (hmg : mg "len" = none) (hfn : Fn s₀.heap f "bisect_left" 8 dV kV) (X : K.In s₀.heap) (hbd : BindBL K dV kV tk0) (hA : Rm A (k + 1))
    (ha : s₀.heap.IsList a vs.toArray) (hlen : vs.length ≤ 1000) (hg : ∀ (i : Nat) v, vs[i]? = some v → ∃ t, v = .int (g i) t) :
    Tells w A (.ref f) ⟨[.ref a, .int x t], []⟩ (fun v _ => ∃ t, v = .int (bisL g x vs.length 0 vs.length) t) s₀ := by
  refine callDef0 [("a", .ref a), ("x", .int x t), ("lo", .int 0 tk0), ("hi", .none), ("key", .none)] hfn GL.lim hA (fun _ _ _ _ _ => hbd _ _ _ _ _ _ _ _ _ X) ?_
  intro A' L cd s hA' S
  refine hideQ ?_; intro Qf hQf
  have hh' := hA'.hh
  refine sIf ?_
  refine hideQ ?_; intro Qi hQi
  refine wpAny_isTrue_Compare1 ?_
  refine nmL S rfl ?_
  refine cI S ?_; intro t1 s S
  refine ltI ?_
  refine tB (hQi _ _ ?_)
  rw [if_neg (by decide)]
  refine wpAny_execs_nil ?_
  refine sIf ?_
  refine hideQ ?_; intro Qi hQi
  refine wpAny_isTrue_Compare1 ?_
  refine nmL S rfl ?_
  refine cN ?_
  refine isN ?_
  refine tB (hQi _ _ ?_)
  rw [if_pos (by decide)]
  refine sAsg ?_
  refine cB1 (id := "len") ?_
  refine nmB S GL hmg (by rfl) ?_
  refine ⟨rfl, ?_⟩
  refine nmL S rfl ?_
  refine lenL S (isLb S ha) (by (first | lia | omega)) ?_; intro t2 s S
  refine stL S ?_; intro s S
  refine wpAny_execs_nil ?_
  refine sIf ?_
  refine hideQ ?_; intro Qi hQi
  refine wpAny_isTrue_Compare1 ?_
  refine nmL S rfl ?_
  refine cN ?_
  refine isN ?_
  refine tB (hQi _ _ ?_)
  rw [if_pos (by decide)]
  refine sWhile (fun n s => ∃ lo hi tl th m, St (Bs.of s₀) L m [] s ∧ m "lo" = some (.int (lo : Nat) tl) ∧ m "hi" = some (.int (hi : Nat) th) ∧ m "a" = some (.ref a) ∧ m "x" = some (.int x t) ∧ True ∧ hi ≤ vs.length ∧ n = hi - lo ∧ bisL g x (hi - lo) lo hi = bisL g x vs.length 0 vs.length) (vs.length - 0)
    ⟨0, vs.length, tk0, t2, _, S, rfl, rfl, rfl, rfl, trivial, Nat.le_refl _, rfl, rfl⟩ ?_
  intro n s hJ
  refine hideQ ?_; intro Qi hQi
  obtain ⟨lo, hi, tl, th, m, S, m1, m2, m3, m4, m5, hhi, rfl, hbis⟩ := hJ
  refine wpAny_isTrue_Compare1 ?_
  refine nmL S m1 ?_
  refine nmL S m2 ?_
  refine ltI ?_
  refine tB (hQi _ _ ?_)
  by_cases hlt : lo < hi
  · rw [if_pos (by simp; (first | lia | omega))]
    refine hideQ ?_; intro Qb hQb
    refine sAsg ?_
    refine wpAny_BinOp ?_
    refine wpAny_BinOp ?_
    refine nmL S m1 ?_
    refine nmL S m2 ?_
    refine iAdd S ?_; intro t3 s S
    refine cI S ?_; intro t4 s S
    refine iDiv S (by decide) ?_ (.inl (PyProof.noPylong_of_log2 (by decide +kernel))); intro t5 s S
    refine stL S ?_; intro s S
    have hmid : ((lo : Int) + hi).fdiv 2 = (((lo + hi) / 2 : Nat) : Int) := by rw [Int.fdiv_eq_ediv_of_nonneg _ (by decide)]; (first | lia | omega)
    rw [hmid] at S
    have hml : (lo + hi) / 2 < vs.length := by (first | lia | omega)
    obtain ⟨v, hv⟩ : ∃ v, vs[(lo + hi) / 2]? = some v := ⟨_, List.getElem?_eq_getElem hml⟩
    have hbis' : bisL g x (hi - lo) lo hi = if g ((lo + hi) / 2) < x then bisL g x (hi - ((lo + hi) / 2 + 1)) ((lo + hi) / 2 + 1) hi else bisL g x ((lo + hi) / 2 - lo) lo ((lo + hi) / 2) := by
      obtain ⟨d, hd⟩ : ∃ d, hi - lo = d + 1 := ⟨hi - lo - 1, by (first | lia | omega)⟩
      rw [hd]
      simp only [bisL, if_pos hlt]
      split
      · exact bisL_fuel _ _ _ _ _ _ (by (first | lia | omega)) (by (first | lia | omega))
      · exact bisL_fuel _ _ _ _ _ _ (by (first | lia | omega)) (by (first | lia | omega))
    refine sIf ?_
    refine hideQ ?_; intro Qi hQi
    refine wpAny_isTrue_Compare1 ?_
    refine Subscript_ ?_
    refine nmL S (by exact m3) ?_
    refine nmL S rfl ?_
    refine itL (isLb S ha) (by (first | lia | omega)) (v := v) (by rw [Int.toNat_natCast]; exact hv) ?_ (by (first | lia | omega))
    obtain ⟨t6, rfl⟩ := hg _ v hv
    refine nmL S (by exact m4) ?_
    refine ltI ?_
    refine tB (hQi _ _ ?_)
    by_cases hx : g ((lo + hi) / 2) < x
    · rw [if_pos (decide_eq_true hx)]
      refine sAsg ?_
      refine wpAny_BinOp ?_
      refine nmL S rfl ?_
      refine cI S ?_; intro t7 s S
      refine iAdd S ?_; intro t8 s S
      refine stL S ?_; intro s S
      refine wpAny_execs_nil ?_
      refine wpAny_execs_nil (hQb _ _ ?_)
      refine ⟨rfl, hi - ((lo + hi) / 2 + 1), by (first | lia | omega), (lo + hi) / 2 + 1, hi, t8, th, _, S, by simp, m2, m3, m4, m5, by (first | lia | omega), rfl, ?_⟩
      rw [← hbis, hbis', if_pos hx]
    · rw [if_neg (by simpa using hx)]
      refine sAsg ?_
      refine nmL S rfl ?_
      refine stL S ?_; intro s S
      refine wpAny_execs_nil ?_
      refine wpAny_execs_nil (hQb _ _ ?_)
      refine ⟨rfl, (lo + hi) / 2 - lo, by (first | lia | omega), lo, (lo + hi) / 2, tl, t5, _, S, m1, rfl, m3, m4, m5, by (first | lia | omega), rfl, ?_⟩
      rw [← hbis, hbis', if_neg hx]
  · rw [if_neg (by simp; (first | lia | omega))]
    refine wpAny_execs_nil ?_
    refine sRet ?_
    refine nmL S m1 ?_
    have : bisL g x (hi - lo) lo hi = lo := by rw [show hi - lo = 0 by (first | lia | omega)]; rfl
    refine hQf _ _ ?_
    exact ⟨_, _, rfl, S.grows, tl, by rw [← hbis, this]⟩
end
end Mine
end
section
open PySem PySem.W PyProof.Rows PySem.Calls
set_option maxRecDepth 100000
set_option maxHeartbeats 2000000
namespace Mine
section
variable {w : World} {A : Around} {E : Value → Shared → Prop} {s : Shared} {B : Bs} {L a : Addr} {m mg : Str → Option Value} {zs : List (Addr × Obj)} {cn : Str} {cs : Scope} {ccd : Value} {cl : List (Str × Addr)} {R : Result → Shared → Prop} {env : Env} {k : Nat}
/-- a free name of a lambda: its cell stands in the base -/
theorem nmF {x : Str} {pos : Pos} {v : Value} {c : Addr} {o : Obj} {Q : Value → Shared → Prop} (S : St B L m zs s) (hc : cl.lookup x = some c) (ho : B.h.get? c = some o) (hd : o.data = .cell (some v)) (h : Q v s)
    (hk : cs.kind = .function := by rfl) (hx : (envX cn cs L a ccd cl).kindOf x = some .free := by rfl) (hb : (x == ("__debug__" : Str)) = false := by decide) (hn : (x == ("__classdict__" : Str)) = false := by decide) :
    wpAny (model prog w) A (eval (.Name x pos) (envX cn cs L a ccd cl)) Q E s := wpAny_Name (wpAny_loadName_free hk hx hc ⟨o, S.base ho, hd⟩ h hn) hb
/-- a call of a lambda that stands in the heap -/
theorem callLam {f c' : Addr} {name qual : Str} {params : Arguments} {body : Expr} {scope : Scope} {cl : List (Str × Addr)} {pm ctv : Value} {args : Args} (binds : List (Str × Value)) (ho : s.heap.get? f = some (kla_obj name qual params body scope cl pm c' ctv))
    (hcd : s.heap.CodeRec (.ref c') qual) (hlim : s.heap.NoLimit) (hroom : Rm A (k + 1))
    (hbind : bindArgs (kla_fn name qual params body scope cl pm (.ref c') ctv) args = pure binds)
    (h : ∀ A' L s', Rm A' k → St (Bs.of s) L (fun y => binds.reverse.lookup y) [] s' → wpAny (model prog w) A' (eval body (envX qual scope L f (.ref c') cl)) (fun v s'' => R (.ok (.ret v)) s'') (fun _ _ => False) s')
    (hloc : (binds.all fun y => decide (scope.names.lookup y.1 = some .local)) = true := by rfl) (hcell : ∀ x ∈ scope.names, x.2 ≠ .cell := by decide)
    (hco : scope.isCoroutine = false := by rfl) (hgen : scope.isGenerator = false := by rfl) (hk : scope.kind = .function := by rfl) : codeAny (model prog w) A (.call (.ref f) args) R s := by
  refine kla_callFunE (by have := hroom.dp; (first | lia | omega)) ho rfl hco hgen rfl hcd ?_
  rw [hbind]
  refine wpAny_pure (wpAny_newFunctionEnv hcell (locs hloc) (fun h₁ hns hsb => ⟨hlim.fresh _ hsb, ?_⟩) hk)
  have hk₁ : ∀ b o, s.heap.get? b = some o → h₁.get? b = some o := fun b o e => hsb.extBut b o (Nat.ne_of_lt (Heap.lt_size e)) (Heap.get?_push_of_some _ e)
  refine kla_codeExpr (wpAny_mono (h _ s.heap.objs.size { s with heap := h₁, toks := s.toks + binds.length } ⟨hroom.hh, ?_, ?_⟩ ⟨⟨hns, hk₁, Nat.le_refl _⟩, (fun _ h => nomatch h), List.nodup_nil, rfl, rfl⟩) (fun _ _ x => x) fun _ _ x => x.elim)
  · show A.depth + 1 + k < recursionLimit; have := hroom.dp; (first | lia | omega)
  · show A.units + 3 + 4 * k < cLine; have := hroom.un; (first | lia | omega)
/-- a def of the text whose code record is known -/
def FnC (h : Heap) (f : Addr) (n q : Str) (d : Dfn) (dV kV cd : Value) : Prop :=
  ∃ o doc pm an ct, h.get? f = some o ∧ o.data = .func (fnOf n q d.1 d.2.1 d.2.2 dV kV doc pm an cd ct) ∧ h.CodeRec cd q
theorem FnC.d {h f n q d dV kV cd} (x : FnC h f n q d dV kV cd) : FnD h f n q d dV kV := let ⟨o, doc, pm, an, ct, r⟩ := x; ⟨o, doc, pm, an, cd, ct, r⟩
theorem FnC.keeps {h h' : Heap} {f n q d dV kV cd} (x : FnC h f n q d dV kV cd) (k : ∀ b o, h.get? b = some o → h'.get? b = some o) : FnC h' f n q d dV kV cd := by
  obtain ⟨o, doc, pm, an, ct, h1, h2, c, oc, vs, t, rfl, h3, r⟩ := x
  exact ⟨o, doc, pm, an, ct, k _ _ h1, h2, c, oc, vs, t, rfl, k _ _ h3, r⟩
theorem CellsAre.keys {cm : Str → Option Value} {cs : List (Str × Addr)} {cells : List (Addr × Obj)} (h : CellsAre cm cs cells) : cells.map (·.1) = cs.map (·.2) := by
  induction h with
  | nil => rfl
  | cons _ _ ih => simp [ih]
/-- a call of a def with cells -/
theorem callDefC {d : Dfn} {f : Addr} {n q : Str} {dV kV cd : Value} {args : Args} (binds : List (Str × Value)) (mu : List (Addr × Obj)) (hfn : FnC s.heap f n q d dV kV cd) (hlim : s.heap.NoLimit) (hroom : Rm A (k + 1))
    (hbind : ∀ doc pm an ct, BindsTo s (fnOf n q d.1 d.2.1 d.2.2 dV kV doc pm an cd ct) args binds)
    (hmu : ∀ p ∈ mu, s.heap.get? p.1 = some p.2) (hnd : (mu.map (·.1)).Nodup)
    (h : ∀ A' L cells s', Rm A' k → CellsAre (bindC (envX q d.2.2 L f cd (cellsFrom (L + 1) d.2.2.names [])).kindOf binds fun _ => none) (cellsFrom (L + 1) d.2.2.names []) cells → (∀ b o, (Bs.hid s (mu.map (·.1))).h.get? b = some o → b < L) →
      St (Bs.hid s (mu.map (·.1))) L (bindL (envX q d.2.2 L f cd (cellsFrom (L + 1) d.2.2.names [])).kindOf binds fun _ => none) (cells ++ mu) s' →
      wpAny (model prog w) A' (execs d.2.1 (envX q d.2.2 L f cd (cellsFrom (L + 1) d.2.2.names [])))
        (fun fl s'' => R (.ok (.ret (match fl with | .ret v => v | _ => .none))) s'') (fun _ _ => False) s')
    (hkind : (binds.all fun y => d.2.2.names.lookup y.1 == some .local || d.2.2.names.lookup y.1 == some .cell) = true := by rfl)
    (hcn : ((cellsFrom 0 d.2.2.names []).map (·.1)).Nodup := by decide)
    (hco : d.2.2.isCoroutine = false := by rfl) (hgen : d.2.2.isGenerator = false := by rfl) (hk : d.2.2.kind = .function := by rfl) : codeAny (model prog w) A (.call (.ref f) args) R s := by
  obtain ⟨o, doc, pm, an, ct, h1, h2, h3⟩ := hfn
  refine codeAny_call_function (fd := fnOf n q d.1 d.2.1 d.2.2 dV kV doc pm an cd ct) (by have := hroom.dp; (first | lia | omega)) h1 h2 hco hgen rfl h3 (hbind _ _ _ _ _ _ _ _ ?_)
  refine wpAny_newFunctionEnv_cells hk (kindsX hkind _) fun env' he s' x => ?_
  subst he
  refine ⟨hlim.keeps x.toInCall.keep, codeAny_func ?_⟩
  obtain ⟨h₁, tk, rfl, _⟩ := x.done
  have hk₁ := x.toInCall.keep
  obtain ⟨cells, NC, Y⟩ := Cl.news (h₀ := s.heap) (Nat.le_refl _) fun n c hm => ⟨x.cell n c (lookup_of_mem_nodup (cellsFrom_names d.2.2.names 0 (s.heap.objs.size + 1) [] [] rfl ▸ hcn) hm), x.above n c hm⟩
  have hcs := CellsAre.keys Y
  refine wpAny_mono (h _ s.heap.objs.size cells { s with heap := h₁, toks := tk } ⟨hroom.hh, ?_, ?_⟩ Y (fun b o e => Heap.lt_size (of_hideAll _ e)) ⟨⟨x.toInCall.ns, hid_keeps (s' := { s with heap := h₁, toks := tk }) hk₁, Nat.le_of_eq (hideAll_size _ _)⟩, fun p hp => ?_, ?_, rfl, rfl⟩) (fun _ _ x => x) fun _ _ x => x.elim
  · show A.depth + 1 + k < recursionLimit; have := hroom.dp; (first | lia | omega)
  · show A.units + 3 + 4 * k < cLine; have := hroom.un; (first | lia | omega)
  · rcases List.mem_append.mp hp with hp | hp
    · refine ⟨(NC p hp).1, (NC p hp).2.1, ?_⟩
      cases q : (hideAll s.heap (mu.map (·.1))).get? p.1 with
      | none => exact q
      | some o => have := of_hideAll _ q; rw [(NC p hp).2.2] at this; cases this
    · exact ⟨hk₁ _ _ (hmu p hp), Nat.ne_of_lt (Heap.lt_size (hmu p hp)), hideAll_none _ (List.mem_map_of_mem hp)⟩
  · rw [List.map_append, List.nodup_append]
    refine ⟨?_, hnd, fun b hb c hc e => ?_⟩
    · rw [hcs]
      have := x.apart
      rw [List.Nodup, List.pairwise_map]
      exact this
    · obtain ⟨p, hp, rfl⟩ := List.mem_map.mp hb
      obtain ⟨q, hq, rfl⟩ := List.mem_map.mp hc
      have h1 := (NC p hp).2.2
      have h2 := hmu q hq
      rw [e] at h1
      exact nomatch (h2.symm.trans h1)
end
end Mine
end
section
open PySem PySem.W PyProof.Rows PySem.Calls
set_option maxRecDepth 100000
set_option maxHeartbeats 2000000
namespace Mine
theorem Up.toUpd {a o o' zs zs'} (U : Up a o o' zs zs') (nd : (zs.map (·.1)).Nodup) : Upd a o o' zs zs' := by
  induction U with
  | @head r =>
    refine .head fun p hp e => ?_
    rw [List.map_cons, List.nodup_cons] at nd
    exact nd.1 (List.mem_map.mpr ⟨p, hp, e⟩)
  | @tail q r r' hU ih =>
    rw [List.map_cons, List.nodup_cons] at nd
    refine .tail (fun e => ?_) (ih nd.2)
    have := List.mem_map_of_mem (f := (·.1)) hU.mem
    rw [e] at nd
    exact nd.1 this
section
variable {w : World} {A : Around} {E : Value → Shared → Prop} {s : Shared} {B : Bs} {L a : Addr} {m mg : Str → Option Value} {zs : List (Addr × Obj)} {cn : Str} {cs : Scope} {ccd : Value} {cl : List (Str × Addr)} {R : Result → Shared → Prop} {env : Env} {k : Nat}
theorem St.reU (S : St B L m zs s) {a : Addr} {o o' : Obj} {zs' : List (Addr × Obj)} (U : Up a o o' zs zs') {h' : Heap} {t : Nat} (F' : Fr B.h L h' m) (N' : News B.h L h' zs') : St B L m zs' { s with heap := h', toks := t } :=
  ⟨F', N', by rw [U.keys]; exact S.nd, S.G, S.O⟩
/-- a method of a list, by plain arguments -/
theorem gmL {l : Addr} {vs : List Value} {n : Nat} {name : Str} {id : String} {pl : Sem Bool} {pos : Pos} {args : List Expr} {Q : Value → Shared → Prop} (ho : s.heap.get? l = some (lob vs n)) (slot : Slot "list" name id) (hty : typeOf (.builtin id) = pure (.type "method_descriptor"))
    (h : wpAny (model prog w) A (evalArgs (.builtin id) true (backTo pos (starEach args env)) []) (fun x s₁ => wpAny (model prog w) A (call (.builtin id) (.ref l :: x.pos) x.kw) Q E s₁) E s)
    (hp : (backTo pos (starEach args env)).any (·.1) = false := by rfl) :
    wpAny (model prog w) A (getMethod (.ref l) name pl) (fun fx s₂ => wpAny (model prog w) A (callWith pos fx.1 fx.2 (backTo pos (starEach args env)) []) Q E s₂) E s := by
  refine getMethod_builtin ⟨_, ho, rfl⟩ PySem.F.plainAttrs_list slot hty (fun a e => by cases e; exact ⟨_, ho, rfl⟩) ?_
  exact callWith_builtin hp h
/-- plain arguments of a call -/
theorem args1 {f : Value} {e : Expr} {pos : Pos} {Q : Args → Shared → Prop} (h : wpAny (model prog w) A (eval e env) (fun v s₁ => Q ⟨[v], []⟩ s₁) E s)
    (he : starEach [e] env = [(false, eval e env)] := by rfl) : wpAny (model prog w) A (evalArgs f true (backTo pos (starEach [e] env)) []) Q E s := by
  rw [he]
  exact evalArgs_plain (spliced_cons (wpAny_mono h (fun v s₁ h₁ => spliced_nil h₁) fun _ _ x => x))
theorem args2 {f : Value} {e e2 : Expr} {pos : Pos} {Q : Args → Shared → Prop} (h : wpAny (model prog w) A (eval e env) (fun v s₁ => wpAny (model prog w) A (eval e2 env) (fun v2 s₂ => Q ⟨[v, v2], []⟩ s₂) E s₁) E s)
    (he : starEach [e, e2] env = [(false, eval e env), (false, eval e2 env)] := by rfl) : wpAny (model prog w) A (evalArgs f true (backTo pos (starEach [e, e2] env)) []) Q E s := by
  rw [he]
  exact evalArgs_plain (spliced_cons (wpAny_mono h (fun v s₁ h₁ => spliced_cons (wpAny_mono h₁ (fun v2 s₂ h₂ => spliced_nil h₂) fun _ _ x => x)) fun _ _ x => x))
theorem insL {l : Addr} {its : List Value} {n : Nat} {x : Nat} {t : Tok} {y : Value} {zs' : List (Addr × Obj)} {Q : Value → Shared → Prop} (S : St B L m zs s) (hx : x ≤ its.length) (hz : its.length ≤ 16384)
    (U : Up l (lob its n) (lob (its.take x ++ y :: its.drop x) (n + 1)) zs zs') (h : ∀ s', St B L m zs' s' → Q .none s') :
    wpAny (model prog w) A (call (.builtin "list.insert") [.ref l, .int x t, y]) Q E s := by
  refine kl_insert (its := its.toArray) (l := its.take x ++ y :: its.drop x) S.F S.N ?_ ?_ (U.toUpd S.nd) ?_ fun h' F' N' => h _ (S.reU (t := s.toks) U F' N')
  · unfold Builtin.List.listFitsIndex
    simp
    (first | lia | omega)
  · unfold kl_ins
    simp only [List.toList_toArray]
    rw [if_neg (by (first | lia | omega))]
    rw [show min (x : Int).toNat its.length = x by (first | lia | omega)]
  · simp only [List.toList_toArray]; exact Nat.le_trans hz (by decide)
end
section
variable {w : World} {A : Around} {s₀ : Shared} {mg : Str → Option Value} {k : Nat}
theorem insort_spec {f fb a key : Addr} {vs : List Value} {n : Nat} {xv : Value} {kx : Int} {g : Nat → Int} {dV kV dV' kV' : Value} (GL : Gl mg (Bs.hid s₀ [a]).h) (hmg : mg "len" = none) (hmb : mg "bisect_right" = some (.ref fb))
    (hfn : Fn (Bs.hid s₀ [a]).h f "insort_right" 6 dV kV) (hdf : Dfl (Bs.hid s₀ [a]).h dV kV) (hfb : Fn (Bs.hid s₀ [a]).h fb "bisect_right" 7 dV' kV') (hdb : Dfl (Bs.hid s₀ [a]).h dV' kV') (hA : Rm A (k + 2))
    (ha : s₀.heap.get? a = some (lob vs n)) (hlen : vs.length ≤ 1000) (hkf : IsFun (Bs.hid s₀ [a]).h key) (hkx : KeyOn w (Bs.hid s₀ [a]) k key [xv] (fun _ => kx)) (hkey : KeyOn w (Bs.hid s₀ [a]) k key vs g) :
    codeAny (model prog w) A (.call (.ref f) ⟨[.ref a, xv], [("key", .ref key)]⟩) (fun r s' => r = .ok (.ret .none) ∧ ∃ n', Grows (Bs.hid s₀ [a]) s' [(a, lob (vs.take (bisR g kx vs.length 0 vs.length) ++ xv :: vs.drop (bisR g kx vs.length 0 vs.length)) n')]) s₀ := by
  have up : ∀ b o, (Bs.hid s₀ [a]).h.get? b = some o → s₀.heap.get? b = some o := fun b o e => of_hideAll _ e
  have hdf0 := hdf
  obtain ⟨T, D, o, tk0, n0, md, rfl, hT1, hT2, rfl, hD1, hD2⟩ := hdf
  refine callDef [("a", .ref a), ("x", xv), ("lo", .int 0 tk0), ("hi", .none), ("key", .ref key)] [(a, lob vs n)] (hfn.keeps up) (GL.keeps up).lim hA (fun _ _ _ _ _ => BindsTo.of_defaults rfl (up _ _ hT1) hT2 rfl rfl)
    (fun p hp => by obtain rfl := List.mem_singleton.mp hp; exact ha) (by simp) ?_
  intro A' L cd s hA' S
  have hh' := hA'.hh
  refine sIf ?_
  refine wpAny_isTrue_Compare1 ?_
  refine nmL S rfl ?_
  refine cN ?_
  refine isN ?_
  refine tB ?_
  rw [if_neg (by simp)]
  refine sAsg ?_
  refine callN (B := Bs.hid s₀ [a]) (L := L) hfb.isFun ?_
  refine nmG S GL hmb ?_
  refine ⟨rfl, ?_⟩
  refine spC ?_
  refine nmL S rfl ?_
  refine spC ?_
  refine callN (B := Bs.hid s₀ [a]) (L := L) hkf ?_
  refine nmL S rfl ?_
  refine ⟨rfl, ?_⟩
  refine spC ?_
  refine nmL S rfl ?_
  refine spN ?_
  refine kwAll_nil ?_
  refine ⟨⟨_, _, S⟩, ?_⟩
  refine callC S (hkx A' s (hA'.le (by (first | lia | omega))) S.F.keep S.G S.O 0 xv rfl) ?_
  rintro r ys s ⟨t6, rfl⟩ S
  replace S := S.sub (List.sublist_append_right _ _)
  refine spC ?_
  refine nmL S rfl ?_
  refine spC ?_
  refine nmL S rfl ?_
  refine spN ?_
  refine kwAll_cons ?_
  refine nmL S rfl ?_
  refine kwAll_nil ?_
  refine ⟨⟨_, _, S⟩, ?_⟩
  refine callC S (bisr_spec (k := k) (GL.keeps S.F.keep) hmg (hfb.keeps S.F.keep) ?_ hA' (isL S (.head _)) hlen ?_ (hkey.mono S.F.keep S.G S.O)) ?_
  · obtain ⟨T, D, o, tk0, n0, md, e1, hT1, hT2, e2, hD1, hD2⟩ := hdb
    exact ⟨T, D, o, tk0, n0, md, e1, S.base hT1, hT2, e2, hD1.keeps S.F.keep, hD2⟩
  · obtain ⟨o, fd, h1, h2⟩ := hkf
    exact ⟨o, fd, S.base h1, h2⟩
  rintro r ys s ⟨t7, rfl⟩ S
  replace S := S.sub (List.sublist_append_right _ _)
  refine stL S ?_; intro s S
  refine wpAny_execs_nil ?_
  have hle : bisR g kx vs.length 0 vs.length ≤ vs.length := by
    have : ∀ f lo hi, lo ≤ hi → bisR g kx f lo hi ≤ hi := by
      intro f
      induction f with
      | zero => intro lo hi h; exact h
      | succ f ih =>
        intro lo hi h
        simp only [bisR]
        split
        · split
          · exact Nat.le_trans (ih _ _ (by (first | lia | omega))) (by (first | lia | omega))
          · exact ih _ _ (by (first | lia | omega))
        · exact h
    exact this _ _ _ (Nat.zero_le _)
  refine sExp ?_
  refine meth ?_
  refine nmL S rfl ?_
  refine gmL (S.get (.head _)) PySem.F.slot_list_insert PySem.F.type_list_insert ?_
  refine args2 ?_
  refine nmL S rfl ?_
  refine nmL S rfl ?_
  refine insL S hle (by (first | lia | omega)) .head ?_; intro s S
  refine wpAny_execs_nil ?_
  exact ⟨rfl, _, S.grows⟩
end
end Mine
end
section
open PySem PySem.W PyProof.Rows PySem.Calls
set_option maxRecDepth 100000
set_option maxHeartbeats 2000000
namespace Mine
section
variable {w : World} {A : Around} {E : Value → Shared → Prop} {s : Shared} {B : Bs} {L a : Addr} {m mg : Str → Option Value} {zs : List (Addr × Obj)} {cn : Str} {cs : Scope} {ccd : Value} {cl : List (Str × Addr)} {R : Result → Shared → Prop} {env : Env} {k : Nat}
/-- a call by a found method -/
theorem callWithF {pos : Pos} {f : Addr} {first : List Value} {args : List Expr} {Q : Value → Shared → Prop} (hf : IsFun B.h f)
    (h : wpAny (model prog w) A (evalArgs (.ref f) true (backTo pos (starEach args env)) []) (fun x s₁ => (∃ m zs, St B L m zs s₁) ∧ wpAny (model prog w) A (call (.ref f) (first ++ x.pos) x.kw) Q E s₁) E s) :
    wpAny (model prog w) A (callWith pos (.ref f) first (backTo pos (starEach args env)) []) Q E s := by
  obtain ⟨o, fd, h1, h2⟩ := hf
  exact callWith_function (o := o) (fd := fd) (wpAny_mono h (fun x s₁ ⟨⟨_, _, S⟩, h'⟩ => ⟨⟨S.base h1, h2⟩, h'⟩) fun _ _ x => x)
end
section
variable {w : World} {A : Around} {s₀ : Shared} {mg : Str → Option Value} {K : Frag} {C fI fC : Addr}
/-- lambda other: comp.compare(other, nm) -/
theorem lam_spec {f c' cc ci x : Addr} {name qual : Str} {params : Arguments} {body : Expr} {scope : Scope} {cl : List (Str × Addr)} {pm ctv v iv : Value} {oc oi : Obj} {way : Int} {p q : Int × Int} {nm : Str} {p1 p2 p3 p4 p5 : Pos} {pl : Env → Sem Bool}
    (GL : Gl mg s₀.heap) (X : K.In s₀.heap) (Y : Kc K C fI fC) (hfn : FnD s₀.heap fC "compare" "TupleComp.compare" (methAt 1) .none .none) (hA : Rm A 2)
    (ho : s₀.heap.get? f = some (kla_obj name qual params body scope cl pm c' ctv)) (hcd : s₀.heap.CodeRec (.ref c') qual)
    (hbind : ∀ v, bindArgs (kla_fn name qual params body scope cl pm (.ref c') ctv) ⟨[v], []⟩ = pure [(Str.ofString "other", v)])
    (he : ∀ env, eval body env = (do let ov ← eval (.Name "comp" p1) env; standAt p2.atName; let (f, first) ← holding [ov] (getMethod ov "compare" (pl env)); callWith p5 f first (backTo p5 (starEach [.Name "other" p3, .Name nm p4] env)) []))
    (hsc : scope.kind = .function) (hs1 : scope.names.lookup (Str.ofString "other") = some .local) (hs2 : scope.names.lookup (Str.ofString "comp") = some .free) (hs3 : scope.names.lookup nm = some .free) (hs4 : ∀ x ∈ scope.names, x.2 ≠ .cell) (hs5 : scope.isCoroutine = false) (hs6 : scope.isGenerator = false)
    (hn1 : (nm == ("__debug__" : Str)) = false) (hn2 : (nm == ("__classdict__" : Str)) = false)
    (hc1 : cl.lookup (Str.ofString "comp") = some cc) (hc2 : cl.lookup nm = some ci) (hoc : s₀.heap.get? cc = some oc) (hocd : oc.data = .cell (some (.ref x))) (hoi : s₀.heap.get? ci = some oi) (hoid : oi.data = .cell (some iv))
    (hx : Comp (On s₀.heap) x C way) (hv : Row2 s₀.heap v p) (hi : Row2 s₀.heap iv q) :
    Tells w A (.ref f) ⟨[v], []⟩ (fun r _ => ∃ t, r = .int (cmpF way p q) t) s₀ := by
  refine callLam [(Str.ofString "other", v)] ho hcd GL.lim hA (hbind v) ?_ (by simp [hs1]) hs4 hs5 hs6 hsc
  intro A' L s hA' S
  have hx0 := hx
  obtain ⟨dx, e, n, T, T0, T1, ta, tb, tc, td, h1, h2, ⟨ek, h3⟩, h4, h5, h6, h7⟩ := hx
  rw [he]
  refine wpAny_bind ?_
  refine nmF S hc1 hoc hocd ?_ hsc hs2
  refine wpAny_bind (wpAny_standAt (wpAny_bind (wpAny_holding ?_)))
  refine method_inst S.F X ⟨S.base h1, rfl, rfl, S.base h2⟩ Y.pg Y.cmp Y.cmpf ?_ ?_
  · unfold getL
    have e1 : (e.key.isStr (Str.ofString "compare")) = false := by rw [h3]; show (Str.ofString "comp_select_list" == Str.ofString "compare") = false; decide +kernel
    have e2 : e.refKey = false := by unfold DictEntry.refKey; rw [h3]
    simp [e1, e2]
  refine callWithF (B := Bs.of s₀) (L := L) hfn.isFun ?_
  refine args2 ?_
  refine nmL S (v := v) (by show List.lookup _ [(Str.ofString "other", v)] = some v; simp) ?_ hsc hs1
  refine nmF S hc2 hoi hoid ?_ hsc hs3 hn1 hn2
  refine ⟨⟨_, _, S⟩, ?_⟩
  refine callC S (compare_spec (p := p) (q := q) (way := way) (GL.keeps S.F.keep) (X.keeps S.F.keep) Y (hfn.keeps S.F.keep) hA' (hx0.mono fun _ _ h => S.base h) ?_ ?_) ?_
  · obtain ⟨t, vs, e, h, r⟩ := hv; exact ⟨t, vs, e, isTb S h, r⟩
  · obtain ⟨t, vs, e, h, r⟩ := hi; exact ⟨t, vs, e, isTb S h, r⟩
  rintro r ys s ⟨t, rfl⟩ S
  exact ⟨_, _, rfl, S.grows, t, rfl⟩
end
end Mine
end
section
open PySem PySem.W PyProof.Rows PySem.Calls
set_option maxRecDepth 100000
set_option maxHeartbeats 2000000
namespace Mine
/-- what a def's table of inner codes holds: nothing yet, or the one lambda's -/
def Tab (p : Pos) (qual : Str) (ys : List (Addr × Obj)) (ps : Array Value) : Prop :=
  ps = #[] ∨ ∃ c' oc vs t, ps = #[rawInt p.line, rawInt p.col, .ref c'] ∧ (c', oc) ∈ ys ∧ oc.data = .fields vs ∧ vs[1]? = some (.str qual t)
theorem Tab.mono {p qual ys ys' ps} (h : Tab p qual ys ps) (hm : ∀ q ∈ ys, q ∈ ys') : Tab p qual ys' ps := by
  rcases h with h | ⟨c', oc, vs, t, h1, h2, r⟩
  · exact .inl h
  · exact .inr ⟨c', oc, vs, t, h1, hm _ h2, r⟩
section
variable {w : World} {A : Around} {E : Value → Shared → Prop} {s : Shared} {B : Bs} {L a c P : Addr} {m mg mb : Str → Option Value} {cn : Str} {cs : Scope} {cl : List (Str × Addr)} {vw : Program} {loose : List Str} {mean : ExcName → Option Value}
theorem mkLam {params : Arguments} {body : Expr} {scope : Scope} {lpos : Pos} {clos : List (Str × Addr)} {ps : Array Value} {pre ys : List (Addr × Obj)} {Q : Value → Shared → Prop} (S : St B L m ((P, tabObj ps) :: (pre ++ ys)) s)
    (T : Top vw loose mean mg mb B.h) (C : CodeHd B.h c P) (htab : Tab lpos (cn ++ ".<locals>." ++ "<lambda>") ys ps) (hcl : closureFor scope (envX cn cs L a (.ref c) cl) = pure clos)
    (h : ∀ f c' ctv lam ex ps' s', lam = kla_obj "<lambda>" (cn ++ ".<locals>." ++ "<lambda>") params body scope clos ((mg "__name__").getD .none) c' ctv → (∀ p ∈ ys, p ∈ ex) → Tab lpos (cn ++ ".<locals>." ++ "<lambda>") ex ps' → (∃ oc vs t, (c', oc) ∈ ex ∧ oc.data = .fields vs ∧ vs[1]? = some (.str (cn ++ ".<locals>." ++ "<lambda>") t)) →
      St B L m ((P, tabObj ps') :: (pre ++ ((f, lam) :: ex))) s' → Q (.ref f) s')
    (hdef : defaultsOf params (envX cn cs L a (.ref c) cl) = ([], []) := by rfl) :
    wpAny (model prog w) A (eval (.Lambda params body scope lpos) (envX cn cs L a (.ref c) cl)) Q E s := by
  refine kla_eval hdef ?_
  have nd := S.nd
  rw [List.map_cons, List.nodup_cons] at nd
  rcases htab with rfl | ⟨c', oc, vs, t, rfl, hc, hvs, hv1⟩
  · refine kla_nest (ps := #[]) S.F S.N T C rfl (.head fun p hp e => nd.1 (List.mem_map.mpr ⟨p, hp, e⟩)) trivial rfl hcl ?_
    intro f c' oc vs t ctv h' tk F' N' hd hv hlt hf
    have S2 : St B L m _ { s with heap := h', toks := tk } := ⟨F', N', ?_, S.G, S.O⟩
    · refine h f c' ctv _ ((c', oc) :: ys) _ _ rfl (fun p hp => .tail _ hp) (.inr ⟨c', oc, vs, t, rfl, .head _, hd, hv⟩) ⟨oc, vs, t, .head _, hd, hv⟩ (S2.perm ?_)
      exact (List.perm_middle (l₁ := _ :: pre)).trans (.cons _ (List.perm_middle (l₁ := _ :: pre)))
    · simp only [List.map_cons, List.nodup_cons]
      refine ⟨?_, ?_, nd.1, nd.2⟩
      · intro hm
        rcases List.mem_cons.mp hm with e | hm
        · exact absurd hf (by rw [e]; exact Nat.lt_irrefl _)
        · rcases List.mem_cons.mp hm with e | hm
          · have := hlt _ (.head _); simp only at this; rw [← e] at this; exact absurd hf (Nat.not_lt.mpr (Nat.le_of_lt this))
          · obtain ⟨p, hp, e⟩ := List.mem_map.mp hm
            have := hlt p (.tail _ hp); rw [e] at this; exact absurd hf (Nat.not_lt.mpr (Nat.le_of_lt this))
      · intro hm
        rcases List.mem_cons.mp hm with e | hm
        · have := hlt _ (.head _); simp only at this; rw [← e] at this; exact absurd this (Nat.lt_irrefl _)
        · obtain ⟨p, hp, e⟩ := List.mem_map.mp hm
          have := hlt p (.tail _ hp); rw [e] at this; exact absurd this (Nat.lt_irrefl _)
  · have hcp : codeAmong lpos (#[rawInt lpos.line, rawInt lpos.col, .ref c'] : Array Value).toList = some (.ref c') := by
      show codeAmong lpos [.int lpos.line 0, .int lpos.col 0, .ref c'] = _
      simp [codeAmong]
    refine kla_hit S.F S.N T C rfl (.head _) (by exact trivial) hcp hcl ?_
    intro f ctv h' tk F' N' hlt
    have S2 : St B L m _ { s with heap := h', toks := tk } := ⟨F', N', ?_, S.G, S.O⟩
    · exact h f c' ctv _ ys _ _ rfl (fun p hp => hp) (.inr ⟨c', oc, vs, t, rfl, hc, hvs, hv1⟩) ⟨oc, vs, t, hc, hvs, hv1⟩ (S2.perm (List.perm_middle (l₁ := _ :: pre)))
    rw [List.map_cons, List.nodup_cons]
    refine ⟨fun hm => ?_, S.nd⟩
    obtain ⟨p, hp, e⟩ := List.mem_map.mp hm
    have := hlt p hp; simp only at e; rw [e] at this; exact absurd this (Nat.lt_irrefl _)
end
end Mine
end
section
open PySem PySem.W PyProof.Rows PySem.Calls
set_option maxRecDepth 100000
set_option maxHeartbeats 2000000
namespace Mine
def Trip (R : Addr → Obj → Prop) (v : Value) (p : Int × Int × Str) : Prop := ∃ t a b c, v = .ref t ∧ R t (tob [.int p.1 a, .int p.2.1 b, .str p.2.2 c])
def StrV (v : Value) (x : Str) : Prop := ∃ t, v = .str x t
def insF (way : Int) (ln : List (Int × Int × Str)) (it : Int × Int × Str) : List (Int × Int × Str) :=
  let r := bisR (fun i => cmpF way ((ln.getD i default).1, (ln.getD i default).2.1) (it.1, it.2.1)) (cmpF way (it.1, it.2.1) (it.1, it.2.1)) ln.length 0 ln.length
  ln.take r ++ it :: ln.drop r
def itemF (x : Str) (i : Nat) : Int × Int × Str := ((x.length : Int) - 1, i, Txt.item x (-1))
/-- the line: the rows laid in one by one -/
def lineF (way : Int) : List Str → Nat → List (Int × Int × Str) → List (Int × Int × Str)
  | [], _, ln => ln
  | x :: r, i, ln => lineF way r (i + 1) (insF way ln (itemF x i))
theorem lineF_snoc (way : Int) (x : Str) : ∀ (rs : List Str) (i : Nat) (ln : List (Int × Int × Str)), lineF way (rs ++ [x]) i ln = insF way (lineF way rs i ln) (itemF x (i + rs.length))
  | [], i, ln => by simp [lineF]
  | y :: r, i, ln => by
    show lineF way (r ++ [x]) (i + 1) _ = _
    rw [lineF_snoc way x r]
    simp only [lineF, List.length_cons]
    rw [show i + 1 + r.length = i + (r.length + 1) by (first | lia | omega)]
theorem insF_len (way : Int) (ln : List (Int × Int × Str)) (it) : (insF way ln it).length = ln.length + 1 := by
  unfold insF
  simp only [List.length_append, List.length_cons, List.length_take, List.length_drop]
  (first | lia | omega)
theorem lineF_len (way : Int) : ∀ (rs : List Str) (i : Nat) (ln : List (Int × Int × Str)), (lineF way rs i ln).length = ln.length + rs.length
  | [], _, _ => rfl
  | x :: r, i, ln => by rw [lineF, lineF_len way r, insF_len, List.length_cons]; (first | lia | omega)
theorem Fa.take {α β : Type} {R : α → β → Prop} {l k} (h : Fa R l k) : ∀ n, Fa R (l.take n) (k.take n) := by
  induction h with
  | nil => intro n; simp; exact .nil
  | cons x _ ih => intro n; cases n with
    | zero => exact .nil
    | succ n => exact .cons x (ih n)
theorem Fa.drop {α β : Type} {R : α → β → Prop} {l k} (h : Fa R l k) : ∀ n, Fa R (l.drop n) (k.drop n) := by
  induction h with
  | nil => intro n; simp; exact .nil
  | cons x t ih => intro n; cases n with
    | zero => exact .cons x t
    | succ n => exact ih n
section
variable {w : World} {A : Around} {E : Value → Shared → Prop} {s : Shared} {B : Bs} {L : Addr} {m : Str → Option Value} {zs : List (Addr × Obj)}
theorem St.hidB (S : St B L m zs s) {l : Addr} {o : Obj} (hl : (l, o) ∈ zs) : ∀ b x, B.h.get? b = some x → (Bs.hid s [l]).h.get? b = some x := fun b x e =>
  hideAll_get [l] (S.base e) (by
    intro h; obtain rfl := List.mem_singleton.mp h
    exact nomatch (e.symm.trans (S.N _ hl).2.2))
theorem St.hidZ (S : St B L m zs s) {l : Addr} {p : Addr × Obj} (hp : p ∈ zs) (hne : p.1 ≠ l) : (Bs.hid s [l]).h.get? p.1 = some p.2 := hideAll_get [l] (S.N _ hp).1 (by simpa using hne)
theorem St.hidO (S : St B L m zs s) {l a : Addr} {o o' : Obj} (hl : (l, o) ∈ zs) (hp : (a, o') ∈ zs) (hne : o' ≠ o) : (Bs.hid s [l]).h.get? a = some o' :=
  S.hidZ hp (fun e => hne (by
    have h1 := S.get hp
    have h2 := S.get hl
    simp only at e
    rw [e, h2] at h1
    exact (Option.some.inj h1).symm))
theorem callU {f l : Addr} {args : Args} {o : Nat → Obj} {zs' : Nat → List (Addr × Obj)} {o0 : Obj} {Q : Value → Shared → Prop} (S : St B L m zs s) (U : ∀ n, Up l o0 (o n) zs (zs' n))
    (hc : codeAny (model prog w) A (.call (.ref f) args) (fun r s' => r = .ok (.ret .none) ∧ ∃ n', Grows (Bs.hid s [l]) s' [(l, o n')]) s) (h : ∀ n s', St B L m (zs' n) s' → Q .none s') :
    wpAny (model prog w) A (call (.ref f) args.pos args.kw) Q E s := by
  refine wpAny_call (codeAny_mono hc fun r s' hr => ?_)
  obtain ⟨rfl, n', g⟩ := hr
  exact h n' s' (S.growU g (U n'))
end
section
variable {w : World} {A : Around} {s₀ : Shared} {mg mb : Str → Option Value} {K : Frag} {C fI fC : Addr} {vw : Program} {loose : List Str} {mean : ExcName → Option Value}
/-- the text's defs that _law_line reaches -/
structure LineEnv (mg : Str → Option Value) (h : Heap) (fi fb : Addr) (dV kV dV' kV' : Value) : Prop where
  len : mg "len" = none
  rng : mg "range" = none
  ins : mg "insort_right" = some (.ref fi)
  bis : mg "bisect_right" = some (.ref fb)
  fi : Fn h fi "insort_right" 6 dV kV
  di : Dfl h dV kV
  fb : Fn h fb "bisect_right" 7 dV' kV'
  db : Dfl h dV' kV'
theorem Dfl.keeps {h h' : Heap} {dV kV} (x : Dfl h dV kV) (k : ∀ b o, h.get? b = some o → h'.get? b = some o) : Dfl h' dV kV := by
  obtain ⟨T, D, o, tk0, n0, md, e1, hT1, hT2, e2, hD1, hD2⟩ := x
  exact ⟨T, D, o, tk0, n0, md, e1, k _ _ hT1, hT2, e2, hD1.keeps k, hD2⟩
theorem IsFun.keeps {h h' : Heap} {f} (x : IsFun h f) (k : ∀ b o, h.get? b = some o → h'.get? b = some o) : IsFun h' f := let ⟨o, fd, h1, h2⟩ := x; ⟨o, fd, k _ _ h1, h2⟩
def lamPosOf : Expr → Pos
  | .Lambda _ _ _ p => p
  | _ => default
def lp18 : Pos := match (defAt 18).2.1 with
  | _ :: .For _ _ [_, .Expr (.Call _ _ [kw] _) _] _ _ :: _ => lamPosOf kw.value
  | _ => default
theorem line_spec {f fi fb c P rl x : Addr} {dV kV dV' kV' : Value} {rvs : List Value} {rs : List Str} {way : Int} {lp : Pos} (T : Top vw loose mean mg mb (Bs.hid s₀ [P]).h) (GL : Gl mg (Bs.hid s₀ [P]).h) (X : K.In (Bs.hid s₀ [P]).h) (Y : Kc K C fI fC)
    (hfc : FnD (Bs.hid s₀ [P]).h fC "compare" "TupleComp.compare" (methAt 1) .none .none) (Z : LineEnv mg (Bs.hid s₀ [P]).h fi fb dV kV dV' kV')
    (hfn : FnC (Bs.hid s₀ [P]).h f "_law_line" "_law_line" (defAt 18) .none .none (.ref c)) (CH : CodeHd (Bs.hid s₀ [P]).h c P) (hP : s₀.heap.get? P = some (tabObj #[])) (hA : Rm A 5)
    (hx : Comp (On (Bs.hid s₀ [P]).h) x C way) (hrl : (Bs.hid s₀ [P]).h.IsList rl rvs.toArray) (hrs : Fa StrV rvs rs) (hlen : rs.length ≤ 100) (hrz : ∀ r ∈ rs, 1 ≤ r.length ∧ r.length ≤ 1000) :
    codeAny (model prog w) A (.call (.ref f) ⟨[.ref rl, .ref x], []⟩) (fun r s' => ∃ l us n ys, r = .ok (.ret (.ref l)) ∧ Grows (Bs.hid s₀ [P]) s' ys ∧ (l, lob us n) ∈ ys ∧ Fa (Trip (In ys)) us (lineF way rs 0 []) ∧ ∃ ps, (P, tabObj ps) ∈ ys) s₀ := by
  have up : ∀ b o, (Bs.hid s₀ [P]).h.get? b = some o → s₀.heap.get? b = some o := fun b o e => of_hideAll _ e
  refine callDefC [("rows", .ref rl), ("comp", .ref x)] [(P, tabObj #[])] (hfn.keeps up) (GL.keeps up).lim hA (fun _ _ _ _ => BindsTo.of_eq rfl) (fun p hp => by obtain rfl := List.mem_singleton.mp hp; exact hP) (by simp) ?_
  intro A' L cells s hA' hcells hbL S
  refine hideQ ?_; intro Qf hQf
  have hh' := hA'.hh
  have hc2 : ∃ o1 o2, cells = [(L + 2, o1), (L + 1, o2)] ∧ o1.data = .cell none ∧ o2.data = .cell (some (.ref x)) := by
    have hcl : cellsFrom (L + 1) (defAt 18).2.2.names [] = [(Str.ofString "item", L + 2), (Str.ofString "comp", L + 1)] := rfl
    rw [hcl] at hcells
    cases hcells with
    | cons h1 hr => cases hr with
      | cons h2 hr => cases hr with
        | nil => exact ⟨_, _, rfl, h1, h2⟩
  obtain ⟨o1, o2, rfl, hd1, hd2⟩ := hc2
  refine sAsg ?_
  refine List_ ?_
  refine spN ?_
  refine nwL S ?_; intro l s S
  refine stL S ?_; intro s S
  replace S := S.perm (List.perm_middle (l₁ := [_, _, _])).symm
  refine sFor ?_
  refine cT1 (id := "range") ?_
  refine nmB S GL Z.rng (by rfl) ?_
  refine ⟨rfl, ?_⟩
  refine cB1 (id := "len") ?_
  refine nmB S GL Z.len (by rfl) ?_
  refine ⟨rfl, ?_⟩
  refine nmL S rfl ?_
  have hrl' := hrs.len
  refine lenL S (isLb S hrl) (by (first | lia | omega)) ?_; intro t1 s S
  refine rng1 S ?_; intro r u v s S
  refine rngIt (k := rvs.length) S (by (first | lia | omega)) (by (first | lia | omega)) (by (first | lia | omega)) (by (first | lia | omega)) (by (first | lia | omega)) ?_; intro I s S
  refine forR hh' S rfl (fun i m zs => m "rows" = some (.ref rl) ∧ m "line" = some (.ref l) ∧ ∃ ps us n oi oc ys, zs = (P, tabObj ps) :: (l, lob us n) :: (L + 2, oi) :: (L + 1, oc) :: ys ∧
      Tab lp18 (Str.ofString "_law_line" ++ ".<locals>." ++ "<lambda>") ys ps ∧ (∃ v0, oi.data = .cell v0) ∧ oc.data = .cell (some (.ref x)) ∧ Fa (Trip (In ys)) us (lineF way (rs.take i) 0 []))
    ⟨rfl, rfl, #[], [], 0, o1, o2, [], rfl, .inl rfl, ⟨_, hd1⟩, hd2, .nil⟩ ?_ ?_
  · intro i tk m zs s io hlt hJ S
    refine hideQ2 ?_; intro Qb hQb
    obtain ⟨m1, m2, ps, us, n, oi, oc, ys, rfl, htab, ⟨v0, hoi⟩, hoc, hF⟩ := hJ
    have hir : i < rs.length := by (first | lia | omega)
    obtain ⟨rv, hrv, ⟨trv, rfl⟩⟩ := hrs.get (i := i) (b := rs[i]) (by simp [hir])
    have hz := hrz rs[i] (List.getElem_mem hir)
    refine asN ?_
    refine stL S ?_; intro s S
    refine sAsg ?_
    refine Tuple_ ?_
    refine spC ?_
    refine wpAny_BinOp ?_
    refine cB1 (id := "len") ?_
    refine nmB S GL Z.len (by rfl) ?_
    refine ⟨rfl, ?_⟩
    refine Subscript_ ?_
    refine nmL S (by exact m1) ?_
    refine nmL S rfl ?_
    refine itL (isLb S hrl) (by (first | lia | omega)) (v := .str rs[i] trv) (by rw [show (0 + (i : Int)).toNat = i by (first | lia | omega)]; exact hrv) ?_ (by (first | lia | omega))
    refine lenS S (by (first | lia | omega)) ?_; intro t2 s S
    refine cI S ?_; intro t3 s S
    refine iSub S ?_; intro t4 s S
    refine spC ?_
    refine nmL S rfl ?_
    refine spC ?_
    refine Subscript_ ?_
    refine Subscript_ ?_
    refine nmL S (by exact m1) ?_
    refine nmL S rfl ?_
    refine itL (isLb S hrl) (by (first | lia | omega)) (v := .str rs[i] trv) (by rw [show (0 + (i : Int)).toNat = i by (first | lia | omega)]; exact hrv) ?_ (by (first | lia | omega))
    refine wpAny_UnaryOp ?_
    refine cI S ?_; intro t5 s S
    refine iNeg S ?_; intro t6 s S
    refine itS S (by (first | lia | omega)) (by (first | lia | omega)) (by (first | lia | omega)) ?_; intro t7 s S
    refine spN ?_
    refine nwT S ?_; intro q s S
    refine stC S (c := L + 2) rfl (fun o' => .tail (.tail (.tail (.tail .head)))) hoi ?_
    intro s oi' hoi' S
    refine sExp ?_
    refine callN (B := Bs.hid s₀ [P]) (L := L) Z.fi.isFun ?_
    refine nmG S GL Z.ins ?_
    refine ⟨rfl, ?_⟩
    refine spC ?_
    refine nmL S (by exact m2) ?_
    refine spC ?_
    refine nmC S (c := L + 2) (o := oi') rfl (.tail _ (.tail _ (.tail _ (.tail _ (.head _))))) hoi' ?_
    refine spN ?_
    refine kwAll_cons ?_
    replace S := S.perm ((List.Perm.cons _ (List.perm_middle (l₁ := [_, _, _, _]))).trans (List.perm_middle (l₁ := [_, _])).symm)
    refine mkLam (pre := [(I, io), (l, lob us n), (L + 2, oi'), (L + 1, oc)]) (ys := (q, _) :: ys) S T CH (htab.mono fun p hp => .tail _ hp) (clos := [(Str.ofString "item", L + 2), (Str.ofString "comp", L + 1)]) rfl ?_
    intro fl c' ctv lam ex ps' s hlamE hex htab' hrec S
    refine kwAll_nil ?_
    refine ⟨⟨_, _, S⟩, ?_⟩
    have hlm : (l, lob us n) ∈ ((P, tabObj ps') :: ([(I, io), (l, lob us n), (L + 2, oi'), (L + 1, oc)] ++ ((fl, lam) :: ex))) := .tail _ (.tail _ (.head _))
    have hb := S.hidB hlm
    have hexm : ∀ p ∈ ex, p ∈ ((P, tabObj ps') :: ([(I, io), (l, lob us n), (L + 2, oi'), (L + 1, oc)] ++ ((fl, lam) :: ex))) := fun p hp => .tail _ (.tail _ (.tail _ (.tail _ (.tail _ (.tail _ hp)))))
    have hul : us.length = (lineF way (rs.take i) 0 []).length := hF.len
    have hul' : us.length = i := by rw [hul, lineF_len]; simp; (first | lia | omega)
    have hlam := S.hidO hlm (a := fl) (o' := lam) (.tail _ (.tail _ (.tail _ (.tail _ (.tail _ (.head _)))))) (by rw [hlamE]; intro e; injection e with e1; injection e1 with e1; exact absurd e1 (by decide))
    have hoi'' := S.hidO hlm (a := L + 2) (o' := oi') (.tail _ (.tail _ (.tail _ (.head _)))) (by intro e; rw [e] at hoi'; cases hoi')
    have hoc'' := S.hidO hlm (a := L + 1) (o' := oc) (.tail _ (.tail _ (.tail _ (.tail _ (.head _))))) (by intro e; rw [e] at hoc; cases hoc)
    have hq'' := S.hidO hlm (a := q) (hexm _ (hex _ (.head _))) (by intro e; injection e with e1; injection e1 with e1; exact absurd e1 (by decide))
    have hrec'' : (Bs.hid s [l]).h.CodeRec (.ref c') (Str.ofString "_law_line" ++ ".<locals>." ++ "<lambda>") := by
      obtain ⟨ocd, vs, t, h1, h2, h3⟩ := hrec
      exact ⟨c', ocd, vs, t, rfl, S.hidO hlm (hexm _ h1) (by intro e; rw [e] at h2; cases h2), h2, h3⟩
    have hel : ∀ (j : Nat) v, us[j]? = some v → Row2 (Bs.hid s [l]).h v (((lineF way (rs.take i) 0 []).getD j default).1, ((lineF way (rs.take i) 0 []).getD j default).2.1) := by
      intro j v hv
      have hj : j < (lineF way (rs.take i) 0 []).length := by rw [← hul]; exact (List.getElem?_eq_some_iff.mp hv).1
      obtain ⟨v', hv', t, a, b, c, rfl, hm⟩ := hF.get (i := j) (b := (lineF way (rs.take i) 0 [])[j]) (by simp [hj])
      obtain rfl : v = .ref t := Option.some.inj (hv.symm.trans hv')
      have ht := S.hidO hlm (hexm _ (hex _ (.tail _ hm))) (by intro e; injection e with e1; injection e1 with e1; exact absurd e1 (by decide))
      refine ⟨t, _, rfl, ⟨_, ht, rfl, 0, rfl⟩, ⟨a, ?_⟩, b, ?_⟩ <;> simp [hj]
    have key : ∀ A'' (s' : Shared), Rm A'' 2 → (∀ b o, (Bs.hid s [l]).h.get? b = some o → s'.heap.get? b = some o) → ∀ v p, Row2 (Bs.hid s [l]).h v p →
        Tells w A'' (.ref fl) ⟨[v], []⟩ (fun r _ => ∃ t, r = .int (cmpF way p ((itemF rs[i] i).1, (itemF rs[i] i).2.1)) t) s' := by
      intro A'' s' hA'' hk v p hv
      have hk2 : ∀ b o, (Bs.hid s₀ [P]).h.get? b = some o → s'.heap.get? b = some o := fun b o e => hk _ _ (hb _ _ e)
      refine lam_spec (nm := Str.ofString "item") (GL.keeps hk2) (X.keeps hk2) Y (hfc.keeps hk2) hA'' (hlamE ▸ hk _ _ hlam) ?_ (fun _ => rfl) (fun _ => rfl) rfl rfl rfl rfl (by decide) rfl rfl (by decide) (by decide) rfl rfl (hk _ _ hoc'') hoc (hk _ _ hoi'') hoi' (hx.mono fun _ _ h => hk2 _ _ h) ?_ ?_
      · obtain ⟨cc, o, vs, t, e, h1, r⟩ := hrec''
        exact ⟨cc, o, vs, t, e, hk _ _ h1, r⟩
      · obtain ⟨t, vs, e, ⟨o, ho, r⟩, r'⟩ := hv
        exact ⟨t, vs, e, ⟨o, hk _ _ ho, r⟩, r'⟩
      · exact ⟨q, _, rfl, ⟨_, hk _ _ hq'', rfl, 0, rfl⟩, ⟨t4, rfl⟩, tk, by simp [itemF]⟩
    refine callU (args := ⟨[.ref l, .ref q], [(Str.ofString "key", .ref fl)]⟩) (o := fun n' => lob (us.take (bisR (fun j => cmpF way (((lineF way (rs.take i) 0 []).getD j default).1, ((lineF way (rs.take i) 0 []).getD j default).2.1) ((itemF rs[i] i).1, (itemF rs[i] i).2.1)) (cmpF way ((itemF rs[i] i).1, (itemF rs[i] i).2.1) ((itemF rs[i] i).1, (itemF rs[i] i).2.1)) us.length 0 us.length) ++ .ref q ::
        us.drop (bisR (fun j => cmpF way (((lineF way (rs.take i) 0 []).getD j default).1, ((lineF way (rs.take i) 0 []).getD j default).2.1) ((itemF rs[i] i).1, (itemF rs[i] i).2.1)) (cmpF way ((itemF rs[i] i).1, (itemF rs[i] i).2.1) ((itemF rs[i] i).1, (itemF rs[i] i).2.1)) us.length 0 us.length)) n') S (fun n' => .tail (.tail .head))
      (insort_spec (k := 2) (GL.keeps hb) Z.len Z.bis (Z.fi.keeps hb) (Z.di.keeps hb) (Z.fb.keeps hb) (Z.db.keeps hb) hA' (S.get hlm) (by (first | lia | omega)) ⟨_, _, hlam, by rw [hlamE]⟩
        (fun A'' s' h1 h2 _ _ j v hv => ?_) (fun A'' s' h1 h2 _ _ j v hv => key A'' s' h1 h2 v _ (hel j v hv))) ?_
    · have : v = .ref q := by
        match j, hv with
        | 0, hv => exact (Option.some.inj hv).symm
        | j + 1, hv => simp at hv
      subst this
      exact key A'' s' h1 h2 _ _ ⟨q, _, rfl, ⟨_, hq'', rfl, 0, rfl⟩, ⟨t4, rfl⟩, tk, by simp [itemF]⟩
    · intro n' s S
      refine wpAny_execs_nil (hQb _ _ ?_)
      refine (.inl ⟨rfl, _, _, S.down1, m1, m2, ps', _, n', oi', oc, _, rfl, htab'.mono fun p hp => .tail _ hp, ⟨_, hoi'⟩, hoc, ?_⟩)
      have e1 : rs.take (i + 1) = rs.take i ++ [rs[i]] := by rw [List.take_succ_eq_append_getElem hir]
      rw [e1, lineF_snoc]
      have e2 : 0 + (rs.take i).length = i := by simp; (first | lia | omega)
      rw [e2]
      have hF' : Fa (Trip (In ((fl, lam) :: ex))) us (lineF way (rs.take i) 0 []) := hF.mono fun v p ⟨t, a, b, c, e, hm⟩ => ⟨t, a, b, c, e, .tail _ (hex _ (.tail _ hm))⟩
      unfold insF
      rw [← hul]
      exact (hF'.take _).app (.cons ⟨q, t4, tk, t7, rfl, .tail _ (hex _ (by simpa [itemF] using .head _))⟩ (hF'.drop _))
  · rintro m zs s ⟨m1, m2, ps, us, n, oi, oc, ys, rfl, htab, _, hoc, hF⟩ S
    refine sRet ?_
    refine nmL S m2 ?_
    rw [show rs.take rvs.length = rs by rw [hrl']; exact List.take_length ..] at hF
    refine hQf _ _ ?_
    exact ⟨l, us, n, _, rfl, S.grows, .tail _ (.head _), hF.mono fun v p ⟨t, a, b, c, e, hm⟩ => ⟨t, a, b, c, e, .tail _ (.tail _ (.tail _ (.tail _ hm)))⟩, ps, .head _⟩
end
end Mine
end
section
open PySem PySem.W PyProof.Rows PySem.Calls
set_option maxRecDepth 100000
set_option maxHeartbeats 2000000
namespace Mine
section
variable {w : World} {A : Around} {E : Value → Shared → Prop} {s : Shared} {B : Bs} {L : Addr} {m : Str → Option Value} {zs : List (Addr × Obj)}
theorem itrL {l : Addr} {vs : List Value} {Q : Value → Shared → Prop} (S : St B L m zs s) (hl : s.heap.IsList l vs.toArray) (h : ∀ I s', St B L m ((I, { cls := .type "list_iterator", data := .fields #[.ref l, .int 0 0] }) :: zs) s' → Q (.ref I) s') :
    wpAny (model prog w) A (pyIter (.ref l)) Q E s := wpAny_pyIter_list hl (h _ _ (S.alloc _ s.toks))
end
def IntV (v : Value) (i : Int) : Prop := ∃ t, v = .int i t
theorem pick_from (vs : List Value) (k : Nat) : (slicePick vs.toArray (some (k : Int)) none none).toList = vs.drop k := by
  have e : sliceBounds (some (k : Int)) none none vs.toArray.size = (((min k vs.toArray.size : Nat) : Int), ((vs.toArray.size : Nat) : Int), 1) := by
    simp only [sliceBounds, Option.getD_none, show (1 : Int) > 0 by decide, if_true, if_neg (show ¬ ((k : Int) < 0) by (first | lia | omega))]
    congr 1
    (first | lia | omega)
  rw [kmk_pick_nat _ e]
  show (vs.drop (min k vs.toArray.size)).take (vs.toArray.size - min k vs.toArray.size) = _
  rw [List.size_toArray, List.take_of_length_le (by rw [List.length_drop]; (first | lia | omega))]
  by_cases h : k ≤ vs.length
  · rw [Nat.min_eq_left h]
  · rw [Nat.min_eq_right (by (first | lia | omega)), List.drop_eq_nil_of_le (Nat.le_refl _), List.drop_eq_nil_of_le (by (first | lia | omega))]
def lkey (way : Int) (ln : List (Int × Int × Str)) (q : Int × Int) (i : Nat) : Int := cmpF way ((ln.getD i default).1, (ln.getD i default).2.1) q
def spotF (way : Int) (ln : List (Int × Int × Str)) (it : Int × Int × Str) : Int := (bisL (lkey way ln (it.1 - 1, it.2.1)) 0 ln.length 0 ln.length : Int) - (1 + way).fdiv 2
def spotsF (way : Int) (ln : List (Int × Int × Str)) : List Int := -1 :: (ln.drop 1).map (spotF way ln)
def lp19 : Pos := match (defAt 19).2.1 with
  | _ :: .For _ _ (_ :: .Assign _ (.Call _ _ [kw] _) _ :: _) _ _ :: _ => lamPosOf kw.value
  | _ => default
section
variable {w : World} {A : Around} {s₀ : Shared} {mg mb : Str → Option Value} {K : Frag} {C fI fC : Addr} {vw : Program} {loose : List Str} {mean : ExcName → Option Value}
theorem callers_spec {f fb c P ll x : Addr} {dV kV : Value} {us : List Value} {ln : List (Int × Int × Str)} {way : Int} {tw : Tok} (T : Top vw loose mean mg mb (Bs.hid s₀ [P]).h) (GL : Gl mg (Bs.hid s₀ [P]).h) (X : K.In (Bs.hid s₀ [P]).h) (Y : Kc K C fI fC)
    (hfc : FnD (Bs.hid s₀ [P]).h fC "compare" "TupleComp.compare" (methAt 1) .none .none) (hlen0 : mg "len" = none) (hmb : mg "bisect_left" = some (.ref fb)) (hfb : Fn (Bs.hid s₀ [P]).h fb "bisect_left" 8 dV kV) (hdb : Dfl (Bs.hid s₀ [P]).h dV kV)
    (hfn : FnC (Bs.hid s₀ [P]).h f "_law_callers" "_law_callers" (defAt 19) .none .none (.ref c)) (CH : CodeHd (Bs.hid s₀ [P]).h c P) (hP : s₀.heap.get? P = some (tabObj #[])) (hA : Rm A 5)
    (hx : Comp (On (Bs.hid s₀ [P]).h) x C way) (hll : (Bs.hid s₀ [P]).h.IsList ll us.toArray) (hln : Fa (Trip (On (Bs.hid s₀ [P]).h)) us ln) (hlen : ln.length ≤ 100) :
    codeAny (model prog w) A (.call (.ref f) ⟨[.ref ll, .ref x, .int way tw], []⟩) (fun r s' => ∃ l vs n ys, r = .ok (.ret (.ref l)) ∧ Grows (Bs.hid s₀ [P]) s' ys ∧ (l, lob vs n) ∈ ys ∧ Fa IntV vs (spotsF way ln) ∧ ∃ ps, (P, tabObj ps) ∈ ys) s₀ := by
  have up : ∀ b o, (Bs.hid s₀ [P]).h.get? b = some o → s₀.heap.get? b = some o := fun b o e => of_hideAll _ e
  have hul := hln.len
  refine callDefC [("line", .ref ll), ("comp", .ref x), ("way", .int way tw)] [(P, tabObj #[])] (hfn.keeps up) (GL.keeps up).lim hA (fun _ _ _ _ => BindsTo.of_eq rfl) (fun p hp => by obtain rfl := List.mem_singleton.mp hp; exact hP) (by simp) ?_
  intro A' L cells s hA' hcells hbL S
  refine hideQ ?_; intro Qf hQf
  have hh' := hA'.hh
  have hc2 : ∃ o1 o2, cells = [(L + 2, o1), (L + 1, o2)] ∧ o1.data = .cell none ∧ o2.data = .cell (some (.ref x)) := by
    have hcl : cellsFrom (L + 1) (defAt 19).2.2.names [] = [(Str.ofString "above", L + 2), (Str.ofString "comp", L + 1)] := rfl
    rw [hcl] at hcells
    cases hcells with
    | cons h1 hr => cases hr with
      | cons h2 hr => cases hr with
        | nil => exact ⟨_, _, rfl, h1, h2⟩
  obtain ⟨o1, o2, rfl, hd1, hd2⟩ := hc2
  refine sAsg ?_
  refine List_ ?_
  refine spC ?_
  refine wpAny_UnaryOp ?_
  refine cI S ?_; intro t1 s S
  refine iNeg S ?_; intro t2 s S
  refine spN ?_
  refine nwL S ?_; intro l s S
  refine stL S ?_; intro s S
  replace S := S.perm (List.perm_middle (l₁ := [_, _, _])).symm
  refine sFor ?_
  refine Subscript_ ?_
  refine nmL S rfl ?_
  refine wpAny_Slice ?_
  refine wpAny_evalPart_some ?_
  refine cI S ?_; intro t3 s S
  refine wpAny_evalPart_none ?_
  refine wpAny_evalPart_none ?_
  refine slL S (isLb S hll) (.int _ _) .none .none (by decide) (by rw [hul]; exact Nat.le_trans hlen (by decide)) ?_
  intro D s S
  rw [show (slicePick us.toArray (some 1) none none).toList = us.drop 1 from pick_from us 1] at S
  refine itrL S (isL S (.head _)) ?_; intro I s S
  replace S := S.perm (zs' := (I, _) :: (P, tabObj #[]) :: (l, lob _ 0) :: (L + 2, o1) :: (L + 1, o2) :: (D, lob (us.drop 1) 0) :: []) (.cons _ (List.perm_middle (l₁ := [_, _, _, _])))
  refine forL (items := us.drop 1) hh' S rfl (fun i m zs => m "line" = some (.ref ll) ∧ m "way" = some (.int way tw) ∧ m "spots" = some (.ref l) ∧ ∃ ps vs n oi oc ys, zs = (P, tabObj ps) :: (l, lob vs n) :: (L + 2, oi) :: (L + 1, oc) :: ys ∧
      Tab lp19 (Str.ofString "_law_callers" ++ ".<locals>." ++ "<lambda>") ys ps ∧ (∃ v0, oi.data = .cell v0) ∧ oc.data = .cell (some (.ref x)) ∧ (D, lob (us.drop 1) 0) ∈ ys ∧ Fa IntV vs (-1 :: ((ln.drop 1).take i).map (spotF way ln)))
    ⟨rfl, rfl, rfl, #[], _, 0, o1, o2, _, rfl, .inl rfl, ⟨_, hd1⟩, hd2, .head _, .cons ⟨t2, rfl⟩ .nil⟩ ?_ ?_ ?_
  · rintro i m' zs' s' ⟨_, _, _, ps, vs, n, oi, oc, ys, rfl, _, _, _, hD, _⟩ S'
    exact isL S' (.tail _ (.tail _ (.tail _ (.tail _ hD))))
  · intro i v m zs s io hv hJ S
    refine hideQ2 ?_; intro Qb hQb
    obtain ⟨m1, m2, m3, ps, vs, n, oi, oc, ys, rfl, htab, ⟨v0, hoi⟩, hoc, hD, hF⟩ := hJ
    have hi : i < (ln.drop 1).length := by rw [← (hln.drop 1).len]; exact (List.getElem?_eq_some_iff.mp hv).1
    obtain ⟨v', hv', t, ta, tb, tc, rfl, hm⟩ := (hln.drop 1).get (i := i) (b := (ln.drop 1)[i]) (by simp [hi])
    obtain rfl : v = .ref t := Option.some.inj (hv.symm.trans hv')
    generalize hit : (ln.drop 1)[i] = it at *
    refine unT S hh' (isTb S ⟨_, hm, rfl, 0, rfl⟩) rfl rfl ?_; intro s S
    refine aio ?_
    refine stL S ?_; intro s S
    refine aio ?_
    refine stL S ?_; intro s S
    refine aio ?_
    refine stL S ?_; intro s S
    refine aio0 ?_
    refine sAsg ?_
    refine Tuple_ ?_
    refine spC ?_
    refine wpAny_BinOp ?_
    refine nmL S rfl ?_
    refine cI S ?_; intro t4 s S
    refine iSub S ?_; intro t5 s S
    refine spC ?_
    refine nmL S rfl ?_
    refine spN ?_
    refine nwT S ?_; intro q s S
    refine stC S (c := L + 2) rfl (fun o' => .tail (.tail (.tail (.tail .head)))) hoi ?_
    intro s oi' hoi' S
    refine sAsg ?_
    refine callN (B := Bs.hid s₀ [P]) (L := L) hfb.isFun ?_
    refine nmG S GL hmb ?_
    refine ⟨rfl, ?_⟩
    refine spC ?_
    refine nmL S (by exact m1) ?_
    refine spC ?_
    refine cI S ?_; intro t6 s S
    refine spN ?_
    refine kwAll_cons ?_
    replace S := S.perm ((List.Perm.cons _ (List.perm_middle (l₁ := [_, _, _, _]))).trans (List.perm_middle (l₁ := [_, _])).symm)
    refine mkLam (pre := [(I, io), (l, lob vs n), (L + 2, oi'), (L + 1, oc)]) (ys := (q, _) :: ys) S T CH (htab.mono fun p hp => .tail _ hp) (clos := [(Str.ofString "comp", L + 1), (Str.ofString "above", L + 2)]) rfl ?_
    intro fl c' ctv lam ex ps' s hlamE hex htab' hrec S
    refine kwAll_nil ?_
    refine ⟨⟨_, _, S⟩, ?_⟩
    have hexm : ∀ p ∈ ex, p ∈ ((P, tabObj ps') :: ([(I, io), (l, lob vs n), (L + 2, oi'), (L + 1, oc)] ++ ((fl, lam) :: ex))) := fun p hp => .tail _ (.tail _ (.tail _ (.tail _ (.tail _ (.tail _ hp)))))
    have hlam := S.get (a := fl) (o := lam) (.tail _ (.tail _ (.tail _ (.tail _ (.tail _ (.head _))))))
    have hoi'' := S.get (a := L + 2) (o := oi') (.tail _ (.tail _ (.tail _ (.head _))))
    have hoc'' := S.get (a := L + 1) (o := oc) (.tail _ (.tail _ (.tail _ (.tail _ (.head _)))))
    have hq'' := S.get (a := q) (hexm _ (hex _ (.head _)))
    have hrec'' : s.heap.CodeRec (.ref c') (Str.ofString "_law_callers" ++ ".<locals>." ++ "<lambda>") := by
      obtain ⟨ocd, vs, t, h1, h2, h3⟩ := hrec
      exact ⟨c', ocd, vs, t, rfl, S.get (hexm _ h1), h2, h3⟩
    have key : KeyOn w (Bs.of s) 2 fl us (lkey way ln (it.1 - 1, it.2.1)) := by
      intro A'' s' hA'' hk _ _ j v hv
      have hk2 : ∀ b o, (Bs.hid s₀ [P]).h.get? b = some o → s'.heap.get? b = some o := fun b o e => hk _ _ (S.base e)
      have hj : j < ln.length := by rw [← hul]; exact (List.getElem?_eq_some_iff.mp hv).1
      obtain ⟨v', hv', t, a, b, c, rfl, hm⟩ := hln.get (i := j) (b := ln[j]) (by simp [hj])
      obtain rfl : v = .ref t := Option.some.inj (hv.symm.trans hv')
      refine lam_spec (nm := Str.ofString "above") (GL.keeps hk2) (X.keeps hk2) Y (hfc.keeps hk2) hA'' (hlamE ▸ hk _ _ hlam) ?_ (fun _ => rfl) (fun _ => rfl) rfl rfl rfl rfl (by decide) rfl rfl (by decide) (by decide) rfl rfl (hk _ _ hoc'') hoc (hk _ _ hoi'') hoi' (hx.mono fun _ _ h => hk2 _ _ h) ?_ ?_
      · obtain ⟨cc, o, vs, t, e, h1, r⟩ := hrec''
        exact ⟨cc, o, vs, t, e, hk _ _ h1, r⟩
      · refine ⟨t, _, rfl, ⟨_, hk2 _ _ hm, rfl, 0, rfl⟩, ⟨a, ?_⟩, b, ?_⟩ <;> simp [hj]
      · exact ⟨q, _, rfl, ⟨_, hk _ _ hq'', rfl, 0, rfl⟩, ⟨t5, rfl⟩, tb, rfl⟩
    refine callC S (bisl_spec (k := 2) (x := 0) (g := lkey way ln (it.1 - 1, it.2.1)) (GL.keeps S.F.keep) hlen0 (hfb.keeps S.F.keep) (hdb.keeps S.F.keep) (hA'.le (by (first | lia | omega))) (isLb S hll) (by (first | lia | omega)) ⟨_, _, hlam, by rw [hlamE]⟩ key) ?_
    rintro r zs2 s ⟨t7, rfl⟩ S
    replace S := S.sub (List.sublist_append_right _ _)
    rw [hul]
    refine stL S ?_; intro s S
    refine sExp ?_
    refine meth ?_
    refine nmL S (by exact m3) ?_
    refine gmAppend (S.get (.tail _ (.tail _ (.head _)))) ?_
    refine wpAny_BinOp ?_
    refine nmL S rfl ?_
    refine wpAny_BinOp ?_
    refine wpAny_BinOp ?_
    refine cI S ?_; intro t8 s S
    refine nmL S (by exact m2) ?_
    refine iAdd S ?_; intro t9 s S
    refine cI S ?_; intro t10 s S
    refine iDiv S (by decide) ?_ (.inl (PyProof.noPylong_of_log2 (by decide +kernel))); intro t11 s S
    refine iSub S ?_; intro t12 s S
    have hvl : vs.length ≤ sizeLine := by rw [hF.len]; simp; exact Nat.le_trans (show _ ≤ 200 by simp at hi; (first | lia | omega)) (by decide)
    refine apL S (.tail (.tail .head)) ?_ hvl; intro s S
    refine wpAny_execs_nil (hQb _ _ ?_)
    refine (.inl ⟨rfl, _, _, S.down1, m1, m2, m3, ps', _, n + 1, oi', oc, _, rfl, htab'.mono fun p hp => .tail _ hp, ⟨_, hoi'⟩, hoc, .tail _ (hex _ (.tail _ hD)), ?_⟩)
    rw [List.take_succ_eq_append_getElem hi, List.map_append, ← List.cons_append]
    refine hF.app (.cons ⟨t12, ?_⟩ .nil)
    rw [hit]
    rfl
  · rintro m zs s ⟨m1, m2, m3, ps, vs, n, oi, oc, ys, rfl, _, _, _, _, hF⟩ S
    refine sRet ?_
    refine nmL S m3 ?_
    rw [show (ln.drop 1).take (us.drop 1).length = ln.drop 1 by rw [(hln.drop 1).len]; exact List.take_length ..] at hF
    refine hQf _ _ ?_
    exact ⟨l, vs, n, _, rfl, S.grows, .tail _ (.head _), hF, ps, .head _⟩
end
end Mine
end
section
open PySem PySem.W PyProof.Rows PySem.Calls
set_option maxRecDepth 100000
set_option maxHeartbeats 2000000
namespace Mine
section
variable {w : World} {A : Around} {E : Value → Shared → Prop} {s : Shared} {B : Bs} {L : Addr} {m mg : Str → Option Value} {zs : List (Addr × Obj)} {env : Env}
theorem St.growI {I : Addr} {io : Obj} (S : St B L m ((I, io) :: zs) s) {s' : Shared} {ys : List (Addr × Obj)} (g : Grows (Bs.hid s [I]) s' ys) : St B L m (ys ++ zs) s' := by
  obtain ⟨g1, g2, g3, g4, g5⟩ := g
  obtain ⟨oL, es, ep, hL, r⟩ := S.F.ns
  have hI := S.N (I, io) (.head _)
  have nd := S.nd
  rw [List.map_cons, List.nodup_cons] at nd
  have k1 : ∀ b o', b ≠ I → s.heap.get? b = some o' → s'.heap.get? b = some o' := fun b o' hb e => g1 b o' (hideAll_get [I] e (by simpa using hb))
  have new : ∀ p ∈ ys, p.1 = I ∨ s.heap.get? p.1 = none := fun p hp => by
    by_cases hpI : p.1 = I
    · exact .inl hpI
    · refine .inr ?_
      cases q : s.heap.get? p.1 with
      | none => rfl
      | some x => exact nomatch ((hideAll_get [I] q (by simpa using hpI)).symm.trans (g2 p hp).2)
  refine ⟨⟨⟨oL, es, ep, k1 _ _ (Ne.symm hI.2.1) hL, r⟩, fun b x e => k1 _ _ (fun z => ?_) (S.F.keep b x e), S.F.above⟩, fun p hp => ?_, ?_, g4.trans S.G, g5.trans S.O⟩
  · rw [z] at e; exact nomatch (e.symm.trans hI.2.2)
  · rcases List.mem_append.mp hp with hp | hp
    · refine ⟨(g2 p hp).1, ?_⟩
      rcases new p hp with e | hn
      · rw [e]; exact hI.2
      · refine ⟨fun e => ?_, ?_⟩
        · rw [e] at hn; exact nomatch (hL.symm.trans hn)
        · cases q : B.h.get? p.1 with
          | none => rfl
          | some o => exact nomatch ((S.F.keep _ _ q).symm.trans hn)
    · have h := S.N p (.tail _ hp)
      exact ⟨k1 _ _ (fun e => nd.1 (List.mem_map.mpr ⟨p, hp, e⟩)) h.1, h.2⟩
  · rw [List.map_append, List.nodup_append]
    refine ⟨g3, nd.2, fun b hb c hc e => ?_⟩
    obtain ⟨p, hp, rfl⟩ := List.mem_map.mp hb
    obtain ⟨q, hq, rfl⟩ := List.mem_map.mp hc
    rcases new p hp with h1 | h1
    · exact nd.1 (List.mem_map.mpr ⟨q, hq, by rw [← h1, e]⟩)
    · rw [e] at h1
      exact nomatch ((S.N q (.tail _ hq)).1.symm.trans h1)
/-- names in any frame -/
theorem gnL {x : Str} {pos : Pos} {v : Value} {Q : Value → Shared → Prop} (S : St B L m zs s) (hv : m x = some v) (h : Q v s) (hL : env.locals = L := by rfl)
    (hk : env.scope.kind = .function := by rfl) (hx : env.kindOf x = some .local := by rfl) (hd : (x == ("__debug__" : Str)) = false := by decide) :
    wpAny (model prog w) A (eval (.Name x pos) env) Q E s := wpAny_Name (wpAny_loadName_local hk hx (hL ▸ S.F.ns) hv h) hd
theorem gnC {x : Str} {pos : Pos} {v : Value} {c : Addr} {o : Obj} {Q : Value → Shared → Prop} (ho : s.heap.get? c = some o) (hd : o.data = .cell (some v)) (h : Q v s) (hc : env.cells.lookup x = some c := by rfl)
    (hk : env.scope.kind = .function := by rfl) (hx : env.kindOf x = some .cell := by rfl) (hb : (x == ("__debug__" : Str)) = false := by decide) :
    wpAny (model prog w) A (eval (.Name x pos) env) Q E s := wpAny_Name (wpAny_loadName_cell hk hx hc ⟨o, ho, hd⟩ h) hb
theorem gnB {x : Str} {pos : Pos} {v : Value} {Q : Value → Shared → Prop} (S : St B L m zs s) (GL : Gl mg B.h) (e : mg x = none) (hv : bootBuiltins x = some v) (h : Q v s) (hn : x ≠ "__name__" := by decide)
    (hg : env.globals = mainGlobals := by rfl) (hbn : env.builtins = builtinsNs := by rfl)
    (hk : env.scope.kind = .function := by rfl) (hx : env.kindOf x = some .globalImplicit := by rfl) (hd : (x == ("__debug__" : Str)) = false := by decide) :
    wpAny (model prog w) A (eval (.Name x pos) env) Q E s := by
  obtain ⟨mb, b, hb⟩ := GL.b
  exact Name_function_global hk hx (loadGlobal_builtin (env := env) (hg ▸ GL.g.keeps S.F.keep) e (hbn ▸ b.keeps S.F.keep) ((hb x hn).trans hv) h) hd
theorem gsL {x : Str} {v : Value} {Q : Unit → Shared → Prop} (S : St B L m zs s) (h : ∀ s', St B L (upd m x v) zs s' → Q () s') (hL : env.locals = L := by rfl)
    (hk : env.scope.kind = .function := by rfl) (hx : env.kindOf x = some .local := by rfl) : wpAny (model prog w) A (storeName env x v) Q E s := by
  subst hL
  exact wpAny_storeName_local hx S.F.ns (fun h' hn hs => h _ (S.set hn hs _)) (by rw [hk]; rfl)
theorem compLoopG {elt target iter : Expr} {ifs : List Expr} {scope : Scope} {pos : Pos} {it acc : Value} {R : Result → Shared → Prop} (I : Nat → Shared → Prop)
    (turn : ∀ n s, I n s → wpAny (model prog w) A (pyNext it) (fun r s₁ => match r with
      | none => R (.ok .next) s₁
      | some v => wpAny (model prog w) A (letOwnedTupleGo target it v) (fun _ s₁' => wpAny (model prog w) A (assign target env v) (fun _ s₂ =>
          wpAny (model prog w) A (forIn ifs true fun c r => if r = true then do let ok ← isTrue c env (eval c env); pure (ForInStep.yield ok) else pure (ForInStep.yield r)) (fun ok s₃ =>
            if ok = true then wpAny (model prog w) A (eval elt env) (fun x s₄ => wpAny (model prog w) A (call (.builtin "list.append") [acc, x]) (fun _ s₅ => ∃ m, m < n ∧ I m s₅) (fun _ _ => False) s₄) (fun _ _ => False) s₃
            else ∃ m, m < n ∧ I m s₃) (fun _ _ => False) s₂) (fun _ _ => False) s₁') (fun _ _ => False) s₁) (fun _ _ => False) s)
    (n : Nat) (h : I n s) :
    codeAny (model prog w) A (.compLoop (.ListComp elt [⟨target, iter, ifs, 0⟩] scope pos) 0 it acc env) R s := by
  refine codeAny_loop rfl I (fun n s hI => ?_) n h
  show wpAny _ A ((compTurn (.ListComp elt [⟨target, iter, ifs, 0⟩] scope pos) 0 it acc env).onRaise (fun x => do noteFrame x env; theTreesLotGoes x)) _ _ s
  refine wpAny_noted ?_
  rw [compTurn_list]
  refine wpAny_bind (wpAny_standAt (wpAny_bind (wpAny_mono (turn n s hI) (fun r s₁ h₁ => ?_) fun _ _ h' => h'.elim)))
  cases r with
  | none => exact wpAny_pure h₁
  | some v =>
    refine wpAny_bind (wpAny_mono h₁ (fun _ s₁' h₁' => ?_) fun _ _ h' => h'.elim)
    refine wpAny_bind (wpAny_mono h₁' (fun _ s₂ h₂ => wpAny_bind (wpAny_mono h₂ (fun ok s₃ h₃ => ?_) fun _ _ h' => h'.elim)) fun _ _ h' => h'.elim)
    cases ok with
    | false => exact wpAny_pure ⟨rfl, h₃⟩
    | true =>
      exact wpAny_bind (wpAny_bind (wpAny_mono h₃ (fun x s₄ h₄ => wpAny_bind (wpAny_mono h₄ (fun _ s₅ h₅ => wpAny_pure (wpAny_pure ⟨rfl, h₅⟩)) fun _ _ h' => h'.elim)) fun _ _ h' => h'.elim))
/-- a list comprehension, from its iterator on -/
theorem lcompR {RR : Value → Addr → Result → Shared → Prop} {tgt elt iter : Expr} {ifs : List Expr} {scope : Scope} {pos : Pos} {cl : List (Str × Addr)} {I : Addr} {io : Obj} {n : Nat} {Iter : Nat → Obj → Prop} {P : Nat → Value → Prop}
    (S : St B L m ((I, io) :: zs) s) (hio : Iter 0 io)
    (item : ∀ C i m' zs' s' io (Q : Option Value → Shared → Prop) (E : Value → Shared → Prop), i < n → Iter i io → St (Bs.hid s [I]) C m' ((I, io) :: zs') s' →
      (∀ v io' s'', P i v → Iter (i + 1) io' → St (Bs.hid s [I]) C m' ((I, io') :: zs') s'' → Q (some v) s'') → wpAny (model prog w) A (pyNext (.ref I)) Q E s')
    (fin : ∀ C m' zs' s' io (Q : Option Value → Shared → Prop) (E : Value → Shared → Prop), Iter n io → St (Bs.hid s [I]) C m' ((I, io) :: zs') s' →
      (∀ s'', St (Bs.hid s [I]) C m' zs' s'' → Q none s'') → wpAny (model prog w) A (pyNext (.ref I)) Q E s')
    (self : ∀ (s' : Shared) io (Q : Value → Shared → Prop) (E : Value → Shared → Prop), Iter 0 io → s'.heap.get? I = some io → Q (.ref I) s' → wpAny (model prog w) A (pyIter (.ref I)) Q E s')
    (lot : ∀ i io, Iter i io → ∃ k vs, io.cls = .type k ∧ io.data = .fields vs ∧ (["enumerate", "zip", "dict_itemiterator", "dict_reverseitemiterator", "odict_iterator", "itertools.zip_longest", "itertools.pairwise"].contains k) = false)
    (J : Nat → List Value → List (Addr × Obj) → Prop) (h0 : J 0 [] []) (hJ : ∀ i acc ex, J i acc ex → acc.length ≤ 10000)
    (turn : ∀ C D i v acc n' ex m₁ s₁ io₁, i < n → P i v → J i acc ex → St (Bs.hid s [I]) C m₁ ((I, io₁) :: (D, lob acc n') :: ex) s₁ →
      wpAny (model prog w) A (assign tgt (compEnvC scope cl C env) v) (fun _ s₂ => wpAny (model prog w) A (forIn ifs true fun c r => if r = true then do let ok ← isTrue c (compEnvC scope cl C env) (eval c (compEnvC scope cl C env)); pure (ForInStep.yield ok) else pure (ForInStep.yield r))
        (fun ok s₃ => if ok = true then wpAny (model prog w) A (eval elt (compEnvC scope cl C env)) (fun x s₄ => ∃ m₂ ex₂, St (Bs.hid s [I]) C m₂ ((I, io₁) :: (D, lob acc n') :: ex₂) s₄ ∧ J (i + 1) (acc ++ [x]) ex₂) (fun _ _ => False) s₃
          else ∃ m₂ ex₂, St (Bs.hid s [I]) C m₂ ((I, io₁) :: (D, lob acc n') :: ex₂) s₃ ∧ J (i + 1) acc ex₂) (fun _ _ => False) s₂) (fun _ _ => False) s₁)
    (hQ : ∀ C D acc n' ex m' s', J n acc ex → s.heap.objs.size ≤ C → St (Bs.hid s [I]) C m' ((D, lob acc n') :: ex) s' → RR (.ref D) C (.ok .next) s')
    (hcell : ∀ y ∈ scope.names, y.2 ≠ .cell) (hkind : scope.kind = .function) :
    wpAny (model prog w) A (newList []) (fun acc s₃ => wpAny (model prog w) A (newFunctionEnv scope env.globals cl [] env.qual none .none (some env)) (fun cenv s₄ =>
      codeAny (model prog w) A (.compStart (.ListComp elt [⟨tgt, iter, ifs, 0⟩] scope pos) 0 (.ref I) acc { cenv with scope := relabel scope env }) (RR acc cenv.locals) s₄) E s₃) E s := by
  have hI := S.N (I, io) (.head _)
  have hIlt := Heap.lt_size hI.1
  refine wpAny_newObj_type (wpAny_newFunctionEnv hcell (by intro y hy; simp at hy) (fun h₁ hns₁ hsb₁ => ?_) hkind)
  dsimp only at hns₁ hsb₁ ⊢
  generalize hH2 : s.heap.push { cls := .type "list", dict := none, data := .seq ([] : List Value).toArray } = H2 at hns₁ hsb₁ ⊢
  have hC : H2.objs.size = s.heap.objs.size + 1 := by rw [← hH2, Heap.size_push]
  have old : ∀ b o, s.heap.get? b = some o → h₁.get? b = some o := fun b o e =>
    hsb₁.extBut b o (Nat.ne_of_lt (by have := Heap.lt_size e; rw [hC]; exact Nat.lt_succ_of_lt this)) (Heap.get?_push_of_some _ (hH2 ▸ Heap.get?_push_of_some _ e))
  have hD : h₁.get? s.heap.objs.size = some (lob [] 0) := hsb₁.extBut _ _ (Nat.ne_of_lt (by rw [hC]; exact Nat.lt_succ_self _)) (Heap.get?_push_of_some _ (hH2 ▸ Heap.get?_push_size _ rfl))
  have fresh : ∀ a, s.heap.objs.size ≤ a → s.heap.get? a = none := fun a ha => by
    cases e : s.heap.get? a with
    | none => rfl
    | some o' => exact absurd (Heap.lt_size e) (Nat.not_lt.mpr ha)
  have freshI : ∀ a, s.heap.objs.size ≤ a → (Bs.hid s [I]).h.get? a = none := fun a ha => by
    cases e : (Bs.hid s [I]).h.get? a with
    | none => rfl
    | some o' => exact nomatch ((of_hideAll _ e).symm.trans (fresh a ha))
  have S4 : St (Bs.hid s [I]) H2.objs.size (fun x => ([] : List (Str × Value)).reverse.lookup x) [(I, io), (s.heap.objs.size, lob [] 0)] { s with heap := h₁, toks := s.toks + ([] : List (Str × Value)).length } := by
    refine ⟨⟨hns₁, fun b o e => old b o (of_hideAll _ e), by show (hideAll s.heap [I]).objs.size ≤ _; rw [hideAll_size, hC]; (first | lia | omega)⟩, fun p hp => ?_, ?_, rfl, rfl⟩
    · rcases List.mem_cons.mp hp with rfl | hp
      · exact ⟨old _ _ hI.1, Nat.ne_of_lt (by show I < _; rw [hC]; exact Nat.lt_succ_of_lt hIlt), hideAll_none _ (.head _)⟩
      · obtain rfl := List.mem_singleton.mp hp
        exact ⟨hD, Nat.ne_of_lt (by show s.heap.objs.size < _; rw [hC]; exact Nat.lt_succ_self _), freshI _ (Nat.le_refl _)⟩
    · simp; exact Nat.ne_of_lt hIlt
  have loop : ∀ s₄ : Shared, s₄ = { s with heap := h₁, toks := s.toks + ([] : List (Str × Value)).length } →
      codeAny (model prog w) A (.compLoop (.ListComp elt [⟨tgt, iter, ifs, 0⟩] scope pos) 0 (.ref I) (.ref s.heap.objs.size) (compEnvC scope cl H2.objs.size env)) (RR (.ref s.heap.objs.size) H2.objs.size) s₄ := by
    rintro s₄ rfl
    refine compLoopG (fun k s' => ∃ i acc n' ex m' io', k + i = n ∧ J i acc ex ∧ Iter i io' ∧ St (Bs.hid s [I]) H2.objs.size m' ((I, io') :: (s.heap.objs.size, lob acc n') :: ex) s') (fun k s' hK => ?_) n ⟨0, [], 0, [], _, io, rfl, h0, hio, S4⟩
    obtain ⟨i, acc, n', ex, m', io', hk, hj, hit, S'⟩ := hK
    by_cases hi : i < n
    · refine item _ i m' _ s' io' _ _ hi hit S' fun v io₁ s₁ hP hit₁ S₁ => ?_
      obtain ⟨kk, vs, l1, l2, l3⟩ := lot _ _ hit₁
      refine tupleGo (S₁.get (.head _)) l1 l2 l3 ?_
      refine wpAny_mono (turn _ _ i v acc n' ex m' s₁ io₁ hi hP hj S₁) (fun _ s₂ h₂ => wpAny_mono h₂ (fun ok s₃ h₃ => ?_) fun _ _ x => x) fun _ _ x => x
      cases ok with
      | false =>
        obtain ⟨m₂, ex₂, S₃, hj₃⟩ := h₃
        exact ⟨k - 1, by (first | lia | omega), i + 1, acc, n', ex₂, m₂, io₁, by (first | lia | omega), hj₃, hit₁, S₃⟩
      | true =>
        refine wpAny_mono h₃ (fun x s₄ h₄ => ?_) fun _ _ x => x
        obtain ⟨m₂, ex₂, S₄, hj₄⟩ := h₄
        refine apL S₄ (.tail .head) (fun s₅ S₅ => ?_) (Nat.le_trans (hJ _ _ _ hj) (by decide))
        exact ⟨k - 1, by (first | lia | omega), i + 1, acc ++ [x], n' + 1, ex₂, m₂, io₁, by (first | lia | omega), hj₄, hit₁, S₅⟩
    · obtain rfl : i = n := by (first | lia | omega)
      refine fin _ m' _ s' io' _ _ hit S' fun s₁ S₁ => ?_
      exact hQ _ _ acc n' ex m' s₁ hj (by rw [hC]; (first | lia | omega)) S₁
  exact codeAny_compStart_list (loop _ rfl) (self _ io _ _ hio (S4.get (.head _)) (loop _ rfl))
/-- the comprehension's own frame is let go -/
theorem St.compOut {I C : Addr} {io : Obj} {m' : Str → Option Value} {ys : List (Addr × Obj)} {s₁ : Shared} (S : St B L m ((I, io) :: zs) s) (hC : s.heap.objs.size ≤ C) (S₁ : St (Bs.hid s [I]) C m' ys s₁) {h' : Heap} (hs' : Heap.SameBut C s₁.heap h') (t : Nat) :
    St B L m (ys ++ zs) { s₁ with heap := h', toks := t } := by
  have g : Grows (Bs.hid s [I]) { s₁ with heap := h', toks := t } ys := by
    refine ⟨fun b o e => (hs'.2 b (fun z => ?_)).trans (S₁.F.keep b o e), fun p hp => ⟨(hs'.2 p.1 (S₁.N p hp).2.1).trans (S₁.N p hp).1, (S₁.N p hp).2.2⟩, S₁.nd, S₁.G, S₁.O⟩
    rw [z] at e
    exact absurd (Heap.lt_size (of_hideAll _ e)) (Nat.not_lt.mpr hC)
  exact S.growI g
/-- the iterator of a comprehension -/
structure Itr (w : World) (A : Around) (Bi : Bs) (I : Addr) (n : Nat) (Iter : Nat → Obj → Prop) (P : Nat → Value → Prop) : Prop where
  item : ∀ C i m' zs' s' io (Q : Option Value → Shared → Prop) (E : Value → Shared → Prop), i < n → Iter i io → St Bi C m' ((I, io) :: zs') s' →
      (∀ v io' s'', P i v → Iter (i + 1) io' → St Bi C m' ((I, io') :: zs') s'' → Q (some v) s'') → wpAny (model prog w) A (pyNext (.ref I)) Q E s'
  fin : ∀ C m' zs' s' io (Q : Option Value → Shared → Prop) (E : Value → Shared → Prop), Iter n io → St Bi C m' ((I, io) :: zs') s' →
      (∀ s'', St Bi C m' zs' s'' → Q none s'') → wpAny (model prog w) A (pyNext (.ref I)) Q E s'
  self : ∀ (s' : Shared) io (Q : Value → Shared → Prop) (E : Value → Shared → Prop), Iter 0 io → s'.heap.get? I = some io → Q (.ref I) s' → wpAny (model prog w) A (pyIter (.ref I)) Q E s'
  lot : ∀ i io, Iter i io → ∃ k vs, io.cls = .type k ∧ io.data = .fields vs ∧ (["enumerate", "zip", "dict_itemiterator", "dict_reverseitemiterator", "odict_iterator", "itertools.zip_longest", "itertools.pairwise"].contains k) = false
theorem Itr.range {I : Addr} {Bi : Bs} (a : Int) (n : Nat) (hh : A.handled = none) : Itr w A Bi I n (fun i o => o = { cls := .type "range_iterator", data := .fields #[rawInt (a + i), rawInt ((n : Int) - i), rawInt 1] }) (fun i v => ∃ t, v = .int (a + i) t) where
  item := by
    intro C i m' zs' s' io Q E hi hit S' hQ
    subst hit
    refine wpAny_pyNext_range_item (x := a + i) (left := (n : Int) - i) (step := 1) (S'.get (.head _)) (by (first | lia | omega)) fun h' hit' hs => ?_
    refine hQ _ _ _ ⟨_, rfl⟩ ?_ (S'.iter hs hit' _)
    have e1 : (a + (i : Int) + 1) = a + ((i + 1 : Nat) : Int) := by (first | lia | omega)
    have e2 : ((n : Int) - i - 1) = (n : Int) - ((i + 1 : Nat) : Int) := by (first | lia | omega)
    rw [e1, e2]
  fin := by
    intro C m' zs' s' io Q E hit S' hQ
    subst hit
    exact wpAny_pyNext_range_end hh (x := a + n) (left := (n : Int) - n) (step := 1) (S'.get (.head _)) (by (first | lia | omega)) fun h' he => hQ _ (S'.iterEnd he s'.toks)
  self := by
    intro s' io Q E hit ho hQ
    subst hit
    exact wpAny_pyIter_rangeiter ho hQ
  lot := by
    intro i io hit
    subst hit
    exact ⟨_, _, rfl, rfl, by decide⟩
theorem Itr.list {I ax : Addr} {Bi : Bs} (items : List Value) (hh : A.handled = none) (hl : Bi.h.IsList ax items.toArray) : Itr w A Bi I items.length (fun i o => o.cls = .type "list_iterator" ∧ o.data = .fields #[.ref ax, .int i 0]) (fun i v => items[i]? = some v) where
  item := by
    intro C i m' zs' s' io Q E hi hit S' hQ
    refine wpAny_pyNext_list_item (x := items[i]) ⟨io, S'.get (.head _), hit⟩ (isLb S' hl) (by simp [hi]) fun h' hit' hs => ?_
    obtain ⟨o', ho', h1, h2⟩ := hit'
    exact hQ _ o' _ (by simp [hi]) ⟨h1, h2⟩ (S'.iter hs ho' s'.toks)
  fin := by
    intro C m' zs' s' io Q E hit S' hQ
    exact wpAny_pyNext_list_end hh ⟨io, S'.get (.head _), hit⟩ (isLb S' hl) (by simp) fun h' he => hQ _ (S'.iterEnd he s'.toks)
  self := fun s' io Q E hit ho hQ => wpAny_pyIter_listiter ⟨io, ho, hit⟩ hQ
  lot := fun i io hit => ⟨_, _, hit.1, hit.2, by decide⟩
/-- one turn of a comprehension -/
abbrev LTurn (w : World) (A : Around) (env : Env) (scope : Scope) (cl : List (Str × Addr)) (tgt elt : Expr) (ifs : List Expr) (Bi : Bs) (I : Addr) (n : Nat) (P : Nat → Value → Prop) (J : Nat → List Value → List (Addr × Obj) → Prop) : Prop :=
  ∀ C D i v acc n' ex m₁ s₁ io₁, i < n → P i v → J i acc ex → St Bi C m₁ ((I, io₁) :: (D, lob acc n') :: ex) s₁ →
      wpAny (model prog w) A (assign tgt (compEnvC scope cl C env) v) (fun _ s₂ => wpAny (model prog w) A (forIn ifs true fun c r => if r = true then do let ok ← isTrue c (compEnvC scope cl C env) (eval c (compEnvC scope cl C env)); pure (ForInStep.yield ok) else pure (ForInStep.yield r))
        (fun ok s₃ => if ok = true then wpAny (model prog w) A (eval elt (compEnvC scope cl C env)) (fun x s₄ => ∃ m₂ ex₂, St Bi C m₂ ((I, io₁) :: (D, lob acc n') :: ex₂) s₄ ∧ J (i + 1) (acc ++ [x]) ex₂) (fun _ _ => False) s₃
          else ∃ m₂ ex₂, St Bi C m₂ ((I, io₁) :: (D, lob acc n') :: ex₂) s₃ ∧ J (i + 1) acc ex₂) (fun _ _ => False) s₂) (fun _ _ => False) s₁
/-- what a comprehension asks of its iterator, its invariant and what comes behind -/
inductive LcGo (w : World) (A : Around) (env : Env) (scope : Scope) (cl : List (Str × Addr)) (tgt elt : Expr) (ifs : List Expr) (B : Bs) (L : Addr) (m : Str → Option Value) (it : Value) (s₂ : Shared) (F : Addr → List (Addr × Obj) → Shared → Prop) : Prop
  | mk (I : Addr) (io : Obj) (zs₂ : List (Addr × Obj)) (n : Nat) (Iter : Nat → Obj → Prop) (P : Nat → Value → Prop) (J : Nat → List Value → List (Addr × Obj) → Prop) (h1 : it = .ref I) (h2 : St B L m ((I, io) :: zs₂) s₂) (h3 : Iter 0 io)
    (h4 : Itr w A (Bs.hid s₂ [I]) I n Iter P) (h5 : J 0 [] []) (h6 : ∀ i acc ex, J i acc ex → acc.length ≤ 10000) (h7 : LTurn w A env scope cl tgt elt ifs (Bs.hid s₂ [I]) I n P J) (h8 : ∀ D acc n' ex s', J n acc ex → F D ((D, lob acc n') :: (ex ++ zs₂)) s') : LcGo w A env scope cl tgt elt ifs B L m it s₂ F
/-- a list comprehension as a value -/
theorem evLC {tgt elt iter : Expr} {ifs : List Expr} {scope : Scope} {pos : Pos} {cl : List (Str × Addr)} {Q : Value → Shared → Prop} (_S : St B L m zs s) (hclos : closureFor scope env = pure cl)
    (h : wpAny (model prog w) A (eval iter env) (fun xv s₁ => wpAny (model prog w) A (pyIter xv) (fun it s₂ => LcGo w A env scope cl tgt elt ifs B L m it s₂ fun D zs' s' => St B L m zs' s' → Q (.ref D) s') E s₁) E s)
    (hs : ∀ x, foldedSetIterable iter env x = pure x := by intro _; rfl) (hcell : ∀ y ∈ scope.names, y.2 ≠ .cell := by decide) (hkind : scope.kind = .function := by rfl)
    (hnames : ∀ x ∈ scope.names, x.2 = .local → scope.names.lookup x.1 = some .local := by decide) :
    wpAny (model prog w) A (eval (.ListComp elt [⟨tgt, iter, ifs, 0⟩] scope pos) env) Q E s := by
  rw [eval_ListComp]
  refine wpAny_comprehension_free (use := none) rfl hs hclos hkind hnames (wpAny_mono h (fun xv s₁ h₁ => wpAny_mono h₁ (fun it s₂ h₂ => ?_) fun _ _ e => e) fun _ _ e => e)
  obtain ⟨I, io, zs₂, n, Iter, P, J, rfl, S, hio, IT, h0, hJ, turn, hQ⟩ := h₂
  refine lcompR (RR := fun acc C => compPost (model prog w) A E none Q acc C) S hio IT.item IT.fin IT.self IT.lot J h0 hJ turn ?_ hcell hkind
  intro C D acc n' ex m' s' hj hC S'
  exact ⟨m', S'.F.ns, fun h' hs' => hQ D acc n' ex _ hj (S.compOut hC S' hs' s'.toks)⟩
/-- a list comprehension stored under a plain name -/
theorem asLC {y : Str} {py spos : Pos} {tgt elt iter : Expr} {ifs : List Expr} {scope : Scope} {pos : Pos} {cl : List (Str × Addr)} {rest : List Stmt} {Q : Flow → Shared → Prop} (_S : St B L m zs s) (hclos : closureFor scope env = pure cl)
    (h : wpAny (model prog w) A (eval iter env) (fun xv s₁ => wpAny (model prog w) A (pyIter xv) (fun it s₂ => LcGo w A env scope cl tgt elt ifs B L m it s₂ fun D zs' s' => St B L (upd m y (.ref D)) zs' s' → wpAny (model prog w) A (execs rest env) Q E s') E s₁) E s)
    (hsw : swapsWith (.ListComp elt [⟨tgt, iter, ifs, 0⟩] scope pos) (some (.Name y py)) spos.line env = pure true := by rfl) (hy : env.kindOf y = some .local := by rfl) (hL : env.locals = L := by rfl) (hk : env.scope.kind = .function := by rfl)
    (hs : ∀ x, foldedSetIterable iter env x = pure x := by intro _; rfl) (hcell : ∀ y ∈ scope.names, y.2 ≠ .cell := by decide) (hkind : scope.kind = .function := by rfl)
    (hnames : ∀ x ∈ scope.names, x.2 = .local → scope.names.lookup x.1 = some .local := by decide) :
    wpAny (model prog w) A (execs (.Assign [.Name y py] (.ListComp elt [⟨tgt, iter, ifs, 0⟩] scope pos) spos :: rest) env) Q E s := by
  subst hL
  refine wpAny_execs_cons ?_
  rw [exec_Assign_Name_used _ _ _ _ hsw]
  refine wpAny_bind (wpAny_standAt (wpAny_bind ?_))
  show wpAny _ A (do let _ ← comprehension (.ListComp elt [⟨tgt, iter, ifs, 0⟩] scope pos) scope env _ (newList []) false (eval iter env) (some (assign (.Name y py) env))) _ _ s
  refine wpAny_bind (wpAny_mono (wpAny_comprehension_free (use := some (assign (.Name y py) env)) (Q := fun _ s' => wpAny (model prog w) A (execs rest env) Q E s') rfl hs hclos hkind hnames
    (wpAny_mono h (fun xv s₁ h₁ => wpAny_mono h₁ (fun it s₂ h₂ => ?_) fun _ _ e => e) fun _ _ e => e)) (fun _ s' hq => wpAny_pure (wpAny_pure hq)) fun _ _ e => e)
  obtain ⟨I, io, zs₂, n, Iter, P, J, rfl, S, hio, IT, h0, hJ, turn, hQ⟩ := h₂
  refine lcompR (RR := fun acc C => compPost (model prog w) A E (some (assign (.Name y py) env)) (fun _ s' => wpAny (model prog w) A (execs rest env) Q E s') acc C) S hio IT.item IT.fin IT.self IT.lot J h0 hJ turn ?_ hcell hkind
  intro C D acc n' ex m' s' hj hC S'
  have So := S.compOut hC S' (Heap.SameBut.refl C s'.heap) s'.toks
  have hLC : env.locals ≠ C := fun e => by
    obtain ⟨oL, es, ep, hL, r⟩ := S.F.ns
    exact absurd (Heap.lt_size hL) (Nat.not_lt.mpr (e ▸ hC))
  show wpAny _ A (assign (.Name y py) env (.ref D)) _ _ _
  refine asN (wpAny_storeName_local hy So.F.ns (fun h₂ hn₂ hs₂ => ?_) (by rw [hk]; rfl))
  refine ⟨m', S'.F.ns.sameBut hs₂ (Ne.symm hLC), fun h₃ hs₃ => ?_⟩
  refine hQ D acc n' ex _ hj ?_
  have S2 := So.set hn₂ hs₂ (s'.toks + 1)
  obtain ⟨oL, es, ep, hL, r⟩ := S2.F.ns
  refine ⟨⟨⟨oL, es, ep, (hs₃.2 _ hLC).trans hL, r⟩, fun b o e => (hs₃.2 b (fun z => ?_)).trans (S2.F.keep b o e), S2.F.above⟩, fun p hp => ⟨(hs₃.2 p.1 (fun z => ?_)).trans (S2.N p hp).1, (S2.N p hp).2⟩, S2.nd, S2.G, S2.O⟩
  · have := Heap.lt_size (S.F.keep b o e)
    rw [z] at this
    exact absurd this (Nat.not_lt.mpr hC)
  · rcases List.mem_append.mp (show p ∈ ((D, lob acc n') :: ex) ++ zs₂ from hp) with hp | hp
    · exact (S'.N p hp).2.1 z
    · have := Heap.lt_size (S.N p (.tail _ hp)).1
      rw [z] at this
      exact absurd this (Nat.not_lt.mpr hC)
end
end Mine
end
section
open PySem PySem.W PyProof.Rows PySem.Calls
set_option maxRecDepth 100000
set_option maxHeartbeats 2000000
namespace Mine
def dAt (ds : List (Int × Str)) (k : Nat) : Int := (ds.getD k default).1
def mateB (way : Int) (ds : List (Int × Str)) (p k : Nat) : Bool := decide (way * (k : Int) < way * (p : Int)) && (dAt ds k == dAt ds p)
def eldB (way : Int) (ds : List (Int × Str)) (p k : Nat) : Bool := decide (way * (p : Int) < way * (k : Int)) && (dAt ds k == dAt ds p - 1)
def pickN (b : Nat → Bool) (n : Nat) : List Int := ((List.range n).filter b).map Int.ofNat
theorem pickN_succ (b : Nat → Bool) (n : Nat) : pickN b (n + 1) = pickN b n ++ (if b n then [(n : Int)] else []) := by
  unfold pickN
  rw [List.range_succ, List.filter_append, List.map_append]
  congr 1
  by_cases h : b n = true <;> simp [h]
theorem pickN_len (b : Nat → Bool) (n : Nat) : (pickN b n).length ≤ n := by
  unfold pickN
  rw [List.length_map]
  exact Nat.le_trans (List.length_filter_le _ _) (by simp)
def waitF (way : Int) (ds : List (Int × Str)) (p : Nat) : Int :=
  ((pickN (mateB way ds p) ds.length).length : Int) + ((pickN (eldB way ds p) ds.length).length : Int) - ((if 1 < dAt ds p then 1 else dAt ds p) * (1 - way)).fdiv 2
def waitsF (way : Int) (ds : List (Int × Str)) (n : Nat) : List Int := (List.range n).map (waitF way ds)
section
variable {w : World} {A : Around} {E : Value → Shared → Prop} {s : Shared} {B : Bs} {L : Addr} {m mg : Str → Option Value} {zs : List (Addr × Obj)} {env : Env}
theorem forIn1 {c : Expr} {Q : Bool → Shared → Prop} (h : wpAny (model prog w) A (isTrue c env (eval c env)) Q E s) :
    wpAny (model prog w) A (forIn [c] true fun c r => if r = true then do let ok ← isTrue c env (eval c env); pure (ForInStep.yield ok) else pure (ForInStep.yield r)) Q E s := by
  rw [List.forIn_cons]
  refine wpAny_bind ?_
  simp only [if_true]
  refine wpAny_bind (wpAny_mono h (fun b s₁ h₁ => ?_) fun _ _ e => e)
  refine wpAny_pure ?_
  simp only [List.forIn_nil]
  exact wpAny_pure h₁
theorem forIn0 {Q : Bool → Shared → Prop} (h : Q true s) :
    wpAny (model prog w) A (forIn ([] : List Expr) true fun c r => if r = true then do let ok ← isTrue c env (eval c env); pure (ForInStep.yield ok) else pure (ForInStep.yield r)) Q E s := by
  simp only [List.forIn_nil]
  exact wpAny_pure h
theorem minI {a b : Int} {t u : Tok} {Q : Value → Shared → Prop} (S : St B L m zs s) (hh : A.handled = none) (h : ∀ t s', St B L m zs s' → Q (.int (if b < a then b else a) t) s') :
    wpAny (model prog w) A (call (.builtin "min") [.int a t, .int b u]) Q E s := min_two_N hh S.F S.N fun _ _ F' N' => h _ _ (S.re F' N')
end
section
variable {w : World} {A : Around} {s₀ : Shared} {mg : Str → Option Value}
theorem waits_spec {f cl : Addr} {cd : Value} {us : List Value} {ds : List (Int × Str)} {way : Int} {tw : Tok} (GL : Gl mg s₀.heap) (hm1 : mg "range" = none) (hm2 : mg "len" = none) (hm3 : mg "min" = none)
    (hfn : FnC s₀.heap f "_law_waits" "_law_waits" (defAt 21) .none .none cd) (hA : Rm A 1) (hcl : s₀.heap.IsList cl us.toArray) (hds : Fa (Pair (On s₀.heap)) us ds) (hlen : ds.length ≤ 100) (hway : way = 1 ∨ way = -1) :
    Tells w A (.ref f) ⟨[.ref cl, .int way tw], []⟩ (fun v ys => ∃ l vs n, v = .ref l ∧ (l, lob vs n) ∈ ys ∧ Fa IntV vs (waitsF way ds ds.length)) s₀ := by
  have hul := hds.len
  have hmul : ∀ x, IntMulOk way x := fun x => .of_left (by rcases hway with rfl | rfl <;> decide +kernel)
  have hmul2 : ∀ x, IntMulOk x (1 - way) := fun x => .of_right (by rcases hway with rfl | rfl <;> decide +kernel)
  refine callDefC [("calls", .ref cl), ("way", .int way tw)] [] hfn GL.lim hA (fun _ _ _ _ => BindsTo.of_eq rfl) (fun _ h => nomatch h) List.nodup_nil ?_
  intro A' L cells s hA' hcells hbL S
  refine hideQ ?_; intro Qf hQf
  have hh' := hA'.hh
  have hc2 : ∃ o1 o2 o3 o4, cells = [(L + 4, o1), (L + 3, o2), (L + 2, o3), (L + 1, o4)] ∧ o1.data = .cell none ∧ o2.data = .cell none ∧ o3.data = .cell (some (.int way tw)) ∧ o4.data = .cell (some (.ref cl)) := by
    have hcl : cellsFrom (L + 1) (defAt 21).2.2.names [] = [(Str.ofString "deep", L + 4), (Str.ofString "place", L + 3), (Str.ofString "way", L + 2), (Str.ofString "calls", L + 1)] := rfl
    rw [hcl] at hcells
    cases hcells with
    | cons h1 hr => cases hr with
      | cons h2 hr => cases hr with
        | cons h3 hr => cases hr with
          | cons h4 hr => cases hr with
            | nil => exact ⟨_, _, _, _, rfl, h1, h2, h3, h4⟩
  obtain ⟨o1, o2, ow, oc, rfl, hd1, hd2, hw, hc⟩ := hc2
  have hget : ∀ k : Nat, k < ds.length → ∃ (t : Addr) (tk tk' : Tok), us[k]? = some (.ref t) ∧ s₀.heap.get? t = some (tob [.int (dAt ds k) tk, .str (ds.getD k default).2 tk']) := by
    intro k hk
    obtain ⟨v, hv, t, tk, tk', rfl, hm⟩ := hds.get (i := k) (b := ds[k]) (by simp [hk])
    refine ⟨t, tk, tk', hv, ?_⟩
    unfold dAt
    rw [show ds.getD k default = ds[k] by simp [hk]]
    exact hm
  refine sAsg ?_
  refine List_ ?_
  refine spN ?_
  refine nwL S ?_; intro l s S
  refine stL S ?_; intro s S
  refine sFor ?_
  refine cT1 (id := "range") ?_
  refine nmB S GL hm1 (by rfl) ?_
  refine ⟨rfl, ?_⟩
  refine cB1 (id := "len") ?_
  refine nmB S GL hm2 (by rfl) ?_
  refine ⟨rfl, ?_⟩
  refine nmC S (c := L + 1) rfl (.tail _ (.tail _ (.tail _ (.tail _ (.head _))))) hc ?_
  refine lenL S (isLb S hcl) (by (first | lia | omega)) ?_; intro t1 s S
  refine rng1 S ?_; intro r u v s S
  refine rngIt (k := us.length) S (by (first | lia | omega)) (by (first | lia | omega)) (by (first | lia | omega)) (by (first | lia | omega)) (by (first | lia | omega)) ?_; intro I s S
  refine forR hh' S rfl (fun i m zs => m "waits" = some (.ref l) ∧ ∃ vs n od op ys, zs = (l, lob vs n) :: (L + 4, od) :: (L + 3, op) :: (L + 2, ow) :: (L + 1, oc) :: ys ∧ (∃ v0, od.data = .cell v0) ∧ (∃ v0, op.data = .cell v0) ∧ Fa IntV vs (waitsF way ds i))
    ⟨rfl, [], 0, o1, o2, [], rfl, ⟨_, hd1⟩, ⟨_, hd2⟩, .nil⟩ ?_ ?_
  · intro i tk m zs s io hlt hJ S
    refine hideQ2 ?_; intro Qb hQb
    obtain ⟨m1, vs, n, od, op, ys, rfl, ⟨v1, hod⟩, ⟨v2, hop⟩, hF⟩ := hJ
    have hi : i < ds.length := by (first | lia | omega)
    refine asN ?_
    refine stC S (c := L + 3) rfl (fun o' => .tail (.tail (.tail .head))) hop ?_
    intro s op' hop' S
    rw [Int.zero_add] at hop'
    obtain ⟨t, ta, tb, hu, hm⟩ := hget i hi
    refine sAsg ?_
    refine Subscript_ ?_
    refine Subscript_ ?_
    refine nmC S (c := L + 1) rfl (.tail _ (.tail _ (.tail _ (.tail _ (.tail _ (.head _)))))) hc ?_
    refine nmC S (c := L + 3) rfl (.tail _ (.tail _ (.tail _ (.head _)))) hop' ?_
    refine itL (isLb S hcl) (by (first | lia | omega)) (by simpa using hu) ?_ (by (first | lia | omega))
    refine cI S ?_; intro t2 s S
    refine itT (isTb S ⟨_, hm, rfl, 0, rfl⟩) (by decide) rfl ?_ (by decide)
    refine stC S (c := L + 4) rfl (fun o' => .tail (.tail .head)) hod ?_
    intro s od' hod' S
    refine asLC S rfl ?_
    refine cT1 (id := "range") ?_
    refine nmB S GL hm1 (by rfl) ?_
    refine ⟨rfl, ?_⟩
    refine cB1 (id := "len") ?_
    refine nmB S GL hm2 (by rfl) ?_
    refine ⟨rfl, ?_⟩
    refine nmC S (c := L + 1) rfl (.tail _ (.tail _ (.tail _ (.tail _ (.tail _ (.head _)))))) hc ?_
    refine lenL S (isLb S hcl) (by (first | lia | omega)) ?_; intro t3 s S
    refine rng1 S ?_; intro r u v s S
    refine rngIt (k := us.length) S (by (first | lia | omega)) (by (first | lia | omega)) (by (first | lia | omega)) (by (first | lia | omega)) (by (first | lia | omega)) ?_; intro I2 s S
    have b1 : (Bs.hid s [I2]).h.get? (L + 1) = some oc := S.hidO (.head _) (.tail _ (.tail _ (.tail _ (.tail _ (.tail _ (.tail _ (.head _))))))) (fun e => by rw [e] at hc; cases hc)
    have b2 : (Bs.hid s [I2]).h.get? (L + 2) = some ow := S.hidO (.head _) (.tail _ (.tail _ (.tail _ (.tail _ (.tail _ (.head _)))))) (fun e => by rw [e] at hw; cases hw)
    have b3 : (Bs.hid s [I2]).h.get? (L + 3) = some op' := S.hidO (.head _) (.tail _ (.tail _ (.tail _ (.tail _ (.head _))))) (fun e => by rw [e] at hop'; cases hop')
    have b4 : (Bs.hid s [I2]).h.get? (L + 4) = some od' := S.hidO (.head _) (.tail _ (.tail _ (.tail _ (.head _)))) (fun e => by rw [e] at hod'; cases hod')
    have bk := S.hidB (l := I2) (.head _)
    refine ⟨I2, _, _, us.length, _, _, fun k acc ex => k ≤ us.length ∧ ex = [] ∧ Fa IntV acc (pickN (mateB way ds i) k), rfl, S, by simp, Itr.range 0 us.length hh', ⟨by (first | lia | omega), rfl, .nil⟩, ?_, ?_, ?_⟩
    · rintro k acc ex ⟨hk, rfl, hf⟩
      have := pickN_len (mateB way ds i) k
      rw [hf.len]; (first | lia | omega)
    · rintro C D k v acc n' ex m₁ s io₁ hk ⟨tv, rfl⟩ ⟨_, rfl, hf⟩ S
      rw [Int.zero_add]
      obtain ⟨t', ta', tb', hu', hm'⟩ := hget k (by (first | lia | omega))
      refine asN ?_
      refine gsL S ?_; intro s S
      refine forIn1 ?_
      refine hideQ ?_; intro Qi hQi
      refine wpAny_isTrue_BoolOp ?_
      refine wpAny_allTrue_And_cons ?_
      refine wpAny_isTrue_Compare1 ?_
      refine wpAny_BinOp ?_
      refine gnC (c := L + 2) (S.base b2) hw ?_
      refine gnL S rfl ?_
      refine iMul S ?_ (hmul _); intro t4 s S
      refine wpAny_BinOp ?_
      refine gnC (c := L + 2) (S.base b2) hw ?_
      refine gnC (c := L + 3) (S.base b3) hop' ?_
      refine iMul S ?_ (hmul _); intro t5 s S
      refine ltI ?_
      refine tB ?_
      by_cases hlt : way * (k : Int) < way * (i : Int)
      · rw [if_pos (decide_eq_true hlt)]
        refine wpAny_allTrue_And_cons ?_
        refine wpAny_isTrue_Compare1 ?_
        refine Subscript_ ?_
        refine Subscript_ ?_
        refine gnC (c := L + 1) (S.base b1) hc ?_
        refine gnL S rfl ?_
        refine itL (isLb S (let ⟨o, ho, r⟩ := hcl; ⟨o, bk _ _ ho, r⟩)) (by (first | lia | omega)) (by simpa using hu') ?_ (by (first | lia | omega))
        refine cI S ?_; intro t6 s S
        refine itT (isTb S ⟨_, bk _ _ hm', rfl, 0, rfl⟩) (by decide) rfl ?_ (by decide)
        refine gnC (c := L + 4) (S.base b4) hod' ?_
        refine PyProof.Rows.eq_int ?_
        refine tB ?_
        by_cases heq : dAt ds k = dAt ds i
        · rw [if_pos (by simpa using heq)]
          refine wpAny_allTrue_And_nil (hQi _ _ ?_)
          rw [if_pos rfl]
          refine gnL S rfl ?_
          refine ⟨_, _, S, by (first | lia | omega), rfl, ?_⟩
          rw [pickN_succ, if_pos (by unfold mateB; simp [hlt, heq])]
          exact hf.app (.cons ⟨_, rfl⟩ .nil)
        · rw [if_neg (by simpa using heq)]
          refine hQi _ _ ?_
          rw [if_neg (by simp)]
          refine ⟨_, _, S, by (first | lia | omega), rfl, ?_⟩
          rw [pickN_succ, if_neg (by unfold mateB; simp [heq])]
          simpa using hf
      · rw [if_neg (by simpa using hlt)]
        refine hQi _ _ ?_
        rw [if_neg (by simp)]
        refine ⟨_, _, S, by (first | lia | omega), rfl, ?_⟩
        rw [pickN_succ, if_neg (by unfold mateB; simp [hlt])]
        simpa using hf
    rintro D1 acc1 n1 ex s ⟨_, rfl, hf1⟩ S
    refine asLC S rfl ?_
    refine cT1 (id := "range") ?_
    refine nmB S GL hm1 (by rfl) ?_
    refine ⟨rfl, ?_⟩
    refine cB1 (id := "len") ?_
    refine nmB S GL hm2 (by rfl) ?_
    refine ⟨rfl, ?_⟩
    refine nmC S (c := L + 1) rfl (.tail _ (.tail _ (.tail _ (.tail _ (.tail _ (.tail _ (.head _))))))) hc ?_
    refine lenL S (isLb S hcl) (by (first | lia | omega)) ?_; intro t3 s S
    refine rng1 S ?_; intro r u v s S
    refine rngIt (k := us.length) S (by (first | lia | omega)) (by (first | lia | omega)) (by (first | lia | omega)) (by (first | lia | omega)) (by (first | lia | omega)) ?_; intro I2 s S
    have b1 : (Bs.hid s [I2]).h.get? (L + 1) = some oc := S.hidO (.head _) (.tail _ (.tail _ (.tail _ (.tail _ (.tail _ (.tail _ (.tail _ (.head _)))))))) (fun e => by rw [e] at hc; cases hc)
    have b2 : (Bs.hid s [I2]).h.get? (L + 2) = some ow := S.hidO (.head _) (.tail _ (.tail _ (.tail _ (.tail _ (.tail _ (.tail _ (.head _))))))) (fun e => by rw [e] at hw; cases hw)
    have b3 : (Bs.hid s [I2]).h.get? (L + 3) = some op' := S.hidO (.head _) (.tail _ (.tail _ (.tail _ (.tail _ (.tail _ (.head _)))))) (fun e => by rw [e] at hop'; cases hop')
    have b4 : (Bs.hid s [I2]).h.get? (L + 4) = some od' := S.hidO (.head _) (.tail _ (.tail _ (.tail _ (.tail _ (.head _))))) (fun e => by rw [e] at hod'; cases hod')
    have bk := S.hidB (l := I2) (.head _)
    refine ⟨I2, _, _, us.length, _, _, fun k acc ex => k ≤ us.length ∧ ex = [] ∧ Fa IntV acc (pickN (eldB way ds i) k), rfl, S, by simp, Itr.range 0 us.length hh', ⟨by (first | lia | omega), rfl, .nil⟩, ?_, ?_, ?_⟩
    · rintro k acc ex ⟨hk, rfl, hf⟩
      have := pickN_len (eldB way ds i) k
      rw [hf.len]; (first | lia | omega)
    · rintro C D k v acc n' ex m₁ s io₁ hk ⟨tv, rfl⟩ ⟨_, rfl, hf⟩ S
      rw [Int.zero_add]
      obtain ⟨t', ta', tb', hu', hm'⟩ := hget k (by (first | lia | omega))
      refine asN ?_
      refine gsL S ?_; intro s S
      refine forIn1 ?_
      refine hideQ ?_; intro Qi hQi
      refine wpAny_isTrue_BoolOp ?_
      refine wpAny_allTrue_And_cons ?_
      refine wpAny_isTrue_Compare1 ?_
      refine wpAny_BinOp ?_
      refine gnC (c := L + 2) (S.base b2) hw ?_
      refine gnL S rfl ?_
      refine iMul S ?_ (hmul _); intro t4 s S
      refine wpAny_BinOp ?_
      refine gnC (c := L + 2) (S.base b2) hw ?_
      refine gnC (c := L + 3) (S.base b3) hop' ?_
      refine iMul S ?_ (hmul _); intro t5 s S
      refine gtI ?_
      refine tB ?_
      by_cases hlt : way * (i : Int) < way * (k : Int)
      · rw [if_pos (decide_eq_true hlt)]
        refine wpAny_allTrue_And_cons ?_
        refine wpAny_isTrue_Compare1 ?_
        refine Subscript_ ?_
        refine Subscript_ ?_
        refine gnC (c := L + 1) (S.base b1) hc ?_
        refine gnL S rfl ?_
        refine itL (isLb S (let ⟨o, ho, r⟩ := hcl; ⟨o, bk _ _ ho, r⟩)) (by (first | lia | omega)) (by simpa using hu') ?_ (by (first | lia | omega))
        refine cI S ?_; intro t6 s S
        refine itT (isTb S ⟨_, bk _ _ hm', rfl, 0, rfl⟩) (by decide) rfl ?_ (by decide)
        refine wpAny_BinOp ?_
        refine gnC (c := L + 4) (S.base b4) hod' ?_
        refine cI S ?_; intro t7 s S
        refine iSub S ?_; intro t8 s S
        refine PyProof.Rows.eq_int ?_
        refine tB ?_
        by_cases heq : dAt ds k = dAt ds i - 1
        · rw [if_pos (by simpa using heq)]
          refine wpAny_allTrue_And_nil (hQi _ _ ?_)
          rw [if_pos rfl]
          refine gnL S rfl ?_
          refine ⟨_, _, S, by (first | lia | omega), rfl, ?_⟩
          rw [pickN_succ, if_pos (by unfold eldB; simp [hlt, heq])]
          exact hf.app (.cons ⟨_, rfl⟩ .nil)
        · rw [if_neg (by simpa using heq)]
          refine hQi _ _ ?_
          rw [if_neg (by simp)]
          refine ⟨_, _, S, by (first | lia | omega), rfl, ?_⟩
          rw [pickN_succ, if_neg (by unfold eldB; simp [heq])]
          simpa using hf
      · rw [if_neg (by simpa using hlt)]
        refine hQi _ _ ?_
        rw [if_neg (by simp)]
        refine ⟨_, _, S, by (first | lia | omega), rfl, ?_⟩
        rw [pickN_succ, if_neg (by unfold eldB; simp [hlt])]
        simpa using hf
    rintro D2 acc2 n2 ex s ⟨_, rfl, hf2⟩ S
    refine sExp ?_
    refine meth ?_
    refine nmL S (by exact m1) ?_
    refine gmAppend (S.get (.tail _ (.tail _ (.tail _ (.head _))))) ?_
    refine wpAny_BinOp ?_
    refine wpAny_BinOp ?_
    refine cB1 (id := "len") ?_
    refine nmB S GL hm2 (by rfl) ?_
    refine ⟨rfl, ?_⟩
    refine nmL S rfl ?_
    have hl1 := pickN_len (mateB way ds i) us.length
    have hl2 := pickN_len (eldB way ds i) us.length
    refine lenL S (isL S (.tail _ (.head _))) (by rw [hf1.len]; (first | lia | omega)) ?_; intro t10 s S
    refine cB1 (id := "len") ?_
    refine nmB S GL hm2 (by rfl) ?_
    refine ⟨rfl, ?_⟩
    refine nmL S rfl ?_
    refine lenL S (isL S (.head _)) (by rw [hf2.len]; (first | lia | omega)) ?_; intro t11 s S
    refine iAdd S ?_; intro t12 s S
    refine wpAny_BinOp ?_
    refine wpAny_BinOp ?_
    refine cB2 (id := "min") ?_
    refine nmB S GL hm3 (by rfl) ?_
    refine ⟨rfl, ?_⟩
    refine nmC S (c := L + 4) rfl (.tail _ (.tail _ (.tail _ (.tail _ (.head _))))) hod' ?_
    refine cI S ?_; intro t13 s S
    refine minI S hh' ?_; intro t14 s S
    refine wpAny_BinOp ?_
    refine cI S ?_; intro t15 s S
    refine nmC S (c := L + 2) rfl (.tail _ (.tail _ (.tail _ (.tail _ (.tail _ (.tail _ (.head _))))))) hw ?_
    refine iSub S ?_; intro t16 s S
    refine iMul S ?_ (hmul2 _); intro t17 s S
    refine cI S ?_; intro t18 s S
    refine iDiv S (by decide) ?_ (.inl (PyProof.noPylong_of_log2 (by decide +kernel))); intro t19 s S
    refine iSub S ?_; intro t20 s S
    have hvl : vs.length ≤ sizeLine := by rw [hF.len]; unfold waitsF; simp; exact Nat.le_trans (show _ ≤ 200 by (first | lia | omega)) (by decide)
    refine apL S (.tail (.tail (.tail .head))) ?_ hvl; intro s S
    refine wpAny_execs_nil (hQb _ _ ?_)
    refine (.inl ⟨rfl, _, _, S.drop1.drop1, m1, _, n + 1, od', op', _, rfl, ⟨_, hod'⟩, ⟨_, hop'⟩, ?_⟩)
    unfold waitsF
    rw [List.range_succ, List.map_append]
    refine hF.app (.cons ⟨t20, ?_⟩ .nil)
    unfold waitF
    rw [hf1.len, hf2.len, hul]
  · rintro m zs s ⟨m1, vs, n, od, op, ys, rfl, _, _, hF⟩ S
    refine sRet ?_
    refine nmL S m1 ?_
    rw [hul] at hF
    refine hQf _ _ ?_
    exact ⟨_, _, rfl, S.grows, l, vs, n, rfl, .head _, hF⟩
end
end Mine
end
section
open PySem PySem.W PyProof.Rows PySem.Calls
set_option maxRecDepth 100000
set_option maxHeartbeats 2000000
namespace Mine
def spotsQ (q : List Int) (n : Nat) : List Int := (List.range n).map fun (i : Nat) => (i : Int) - q.getD i 0 - 1
def stopsF (sp : List Int) : Nat → List Int
  | 0 => [1]
  | k + 1 => stopsF sp k ++ [(bisL (fun i => sp.getD i 0) ((stopsF sp k).getLastD 0) sp.length 0 sp.length : Int)]
theorem stopsF_len (sp : List Int) : ∀ k, (stopsF sp k).length = k + 1
  | 0 => rfl
  | k + 1 => by simp [stopsF, stopsF_len sp k]
theorem Fa.last {α β : Type} {R : α → β → Prop} {l : List α} {k : List β} (h : Fa R l k) (d : β) (hne : 0 < k.length) : ∃ a, l[l.length - 1]? = some a ∧ R a (k.getLastD d) := by
  have := h.get (i := k.length - 1) (b := k.getLastD d) (by
    rw [List.getLastD_eq_getLast?, ← List.getLast?_eq_getElem?]
    cases e : k.getLast? with
    | none => rw [List.getLast?_eq_none_iff] at e; subst e; simp at hne
    | some x => rfl)
  rw [h.len]
  exact this
section
variable {w : World} {A : Around} {E : Value → Shared → Prop} {s : Shared} {B : Bs} {L : Addr} {m mg : Str → Option Value} {zs : List (Addr × Obj)} {env : Env}
/-- the last item of a list -/
theorem itLast {value slice : Expr} {l : Addr} {vs : List Value} {u : Tok} {v : Value} {Q : Value → Shared → Prop} (hl : s.heap.IsList l vs.toArray) (hx : vs[vs.length - 1]? = some v) (h : Q v s)
    (hs : subscripted slice false (.ref l) (.int (-1) u) = operate [.ref l, .int (-1) u] (getItem (.ref l) (.int (-1) u)) := by with_unfolding_all rfl) : wpAny (model prog w) A (subscriptTail value slice (.ref l) (.int (-1) u)) Q E s := by
  have hlt := (List.getElem?_eq_some_iff.mp hx).1
  refine tail_any hl.typeIs slot_list_getitem.lookup (wpAny_getItem_list_neg hl (by decide) ?_ (by decide) ?_ h) hs
  · simp; (first | lia | omega)
  · rw [show (-1 + ((vs.toArray.size : Nat) : Int)).toNat = vs.length - 1 by simp; (first | lia | omega)]
    simpa using hx
end
section
variable {w : World} {A : Around} {s₀ : Shared} {mg : Str → Option Value} {K : Frag}
theorem stops_spec {f fb ql : Addr} {cd dV kV : Value} {us : List Value} {q : List Int} {many : Nat} {tm tk0 : Tok} (GL : Gl mg s₀.heap) (X : K.In s₀.heap) (hm1 : mg "range" = none) (hm2 : mg "len" = none) (hmb : mg "bisect_left" = some (.ref fb))
    (hfb : Fn s₀.heap fb "bisect_left" 8 dV kV) (hbd : BindBL K dV kV tk0)
    (hfn : FnC s₀.heap f "_law_stops" "_law_stops" (defAt 24) .none .none cd) (hA : Rm A 2) (hql : s₀.heap.IsList ql us.toArray) (hq : Fa IntV us q) (hlen : q.length ≤ 100) (hmany : many ≤ 100) :
    Tells w A (.ref f) ⟨[.ref ql, .int many tm], []⟩ (fun v ys => ∃ l vs n, v = .ref l ∧ (l, lob vs n) ∈ ys ∧ Fa IntV vs (stopsF (spotsQ q q.length) many)) s₀ := by
  have hul := hq.len
  refine callDefC [("queue", .ref ql), ("many", .int many tm)] [] hfn GL.lim hA (fun _ _ _ _ => BindsTo.of_eq rfl) (fun _ h => nomatch h) List.nodup_nil ?_
  intro A' L cells s hA' hcells hbL S
  refine hideQ ?_; intro Qf hQf
  have hh' := hA'.hh
  have hc2 : ∃ o1, cells = [(L + 1, o1)] ∧ o1.data = .cell (some (.ref ql)) := by
    have hcl : cellsFrom (L + 1) (defAt 24).2.2.names [] = [(Str.ofString "queue", L + 1)] := rfl
    rw [hcl] at hcells
    cases hcells with
    | cons h1 hr => cases hr with
      | nil => exact ⟨_, rfl, h1⟩
  obtain ⟨oq, rfl, hc⟩ := hc2
  refine asLC S rfl ?_
  refine cT1 (id := "range") ?_
  refine nmB S GL hm1 (by rfl) ?_
  refine ⟨rfl, ?_⟩
  refine cB1 (id := "len") ?_
  refine nmB S GL hm2 (by rfl) ?_
  refine ⟨rfl, ?_⟩
  refine nmC S (c := L + 1) rfl (.head _) hc ?_
  refine lenL S (isLb S hql) (by (first | lia | omega)) ?_; intro t3 s S
  refine rng1 S ?_; intro r u v s S
  refine rngIt (k := us.length) S (by (first | lia | omega)) (by (first | lia | omega)) (by (first | lia | omega)) (by (first | lia | omega)) (by (first | lia | omega)) ?_; intro I2 s S
  have b1 : (Bs.hid s [I2]).h.get? (L + 1) = some oq := S.hidO (.head _) (.tail _ (.head _)) (fun e => by rw [e] at hc; cases hc)
  have bk := S.hidB (l := I2) (.head _)
  refine ⟨I2, _, _, us.length, _, _, fun k acc ex => k ≤ us.length ∧ ex = [] ∧ Fa IntV acc (spotsQ q k), rfl, S, by simp, Itr.range 0 us.length hh', ⟨by (first | lia | omega), rfl, .nil⟩, ?_, ?_, ?_⟩
  · rintro k acc ex ⟨hk, rfl, hf⟩
    rw [hf.len]; unfold spotsQ; simp; (first | lia | omega)
  · rintro C D k v acc n' ex m₁ s io₁ hk ⟨tv, rfl⟩ ⟨_, rfl, hf⟩ S
    rw [Int.zero_add]
    obtain ⟨v', hv', tq, rfl⟩ := hq.get (i := k) (b := q.getD k 0) (by simp [show k < q.length by (first | lia | omega)])
    refine asN ?_
    refine gsL S ?_; intro s S
    refine forIn0 ?_
    rw [if_pos rfl]
    refine wpAny_BinOp ?_
    refine wpAny_BinOp ?_
    refine gnL S rfl ?_
    refine Subscript_ ?_
    refine gnC (c := L + 1) (S.base b1) hc ?_
    refine gnL S rfl ?_
    refine itL (isLb S (let ⟨o, ho, r⟩ := hql; ⟨o, bk _ _ ho, r⟩)) (by (first | lia | omega)) (by simpa using hv') ?_ (by (first | lia | omega))
    refine iSub S ?_; intro t4 s S
    refine cI S ?_; intro t5 s S
    refine iSub S ?_; intro t6 s S
    refine ⟨_, _, S, by (first | lia | omega), rfl, ?_⟩
    unfold spotsQ
    rw [List.range_succ, List.map_append]
    exact hf.app (.cons ⟨_, rfl⟩ .nil)
  rintro D sp n1 ex s ⟨_, rfl, hsp⟩ S
  rw [hul] at hsp
  have hspl : sp.length = q.length := by rw [hsp.len]; unfold spotsQ; simp
  refine sAsg ?_
  refine List_ ?_
  refine spC ?_
  refine cI S ?_; intro t1 s S
  refine spN ?_
  refine nwL S ?_; intro l s S
  refine stL S ?_; intro s S
  refine sFor ?_
  refine cT1 (id := "range") ?_
  refine nmB S GL hm1 (by rfl) ?_
  refine ⟨rfl, ?_⟩
  refine nmL S rfl ?_
  refine rng1 S ?_; intro r u v s S
  refine rngIt (k := many) S (by (first | lia | omega)) (by (first | lia | omega)) (by (first | lia | omega)) (by (first | lia | omega)) (by (first | lia | omega)) ?_; intro I s S
  refine forR hh' S rfl (fun i m zs => m "spots" = some (.ref D) ∧ m "stops" = some (.ref l) ∧ ∃ vs n ys, zs = (l, lob vs n) :: (D, lob sp n1) :: ys ∧ Fa IntV vs (stopsF (spotsQ q q.length) i))
    ⟨rfl, rfl, _, 0, _, rfl, .cons ⟨t1, rfl⟩ .nil⟩ ?_ ?_
  · intro i tk m zs s io hlt hJ S
    refine hideQ2 ?_; intro Qb hQb
    obtain ⟨m1, m2, vs, n, ys, rfl, hF⟩ := hJ
    have hvn := hF.len
    rw [stopsF_len] at hvn
    obtain ⟨v, hv, tv, rfl⟩ := hF.last 0 (by rw [stopsF_len]; (first | lia | omega))
    refine asN ?_
    refine stL S ?_; intro s S
    refine sExp ?_
    refine meth ?_
    refine nmL S (by exact m2) ?_
    refine gmAppend (S.get (.tail _ (.head _))) ?_
    refine call2 (B := Bs.hid s₀ []) (L := L) hfb ?_
    refine nmG S GL hmb ?_
    refine ⟨rfl, ?_⟩
    refine nmL S (by exact m1) ?_
    refine Subscript_ ?_
    refine nmL S (by exact m2) ?_
    refine wpAny_UnaryOp ?_
    refine cI S ?_; intro t7 s S
    refine iNeg S ?_; intro t8 s S
    refine itLast (isL S (.tail _ (.head _))) hv ?_
    refine ⟨⟨_, _, S⟩, ?_⟩
    refine callC S (bisl0_spec (k := 0) (g := fun i => (spotsQ q q.length).getD i 0) (GL.keeps S.F.keep) hm2 (hfb.keeps S.F.keep) (X.keeps S.F.keep) hbd (hA'.le (by (first | lia | omega))) (isL S (.tail _ (.tail _ (.head _)))) (by (first | lia | omega)) ?_) ?_
    · intro j v hv
      have hj := (List.getElem?_eq_some_iff.mp hv).1
      rw [hsp.len] at hj
      obtain ⟨v', hv', t', rfl⟩ := hsp.get (i := j) (b := (spotsQ q q.length).getD j 0) (by simp [hj])
      obtain rfl := Option.some.inj (hv.symm.trans hv')
      exact ⟨t', rfl⟩
    rintro r zs2 s ⟨t9, rfl⟩ S
    replace S := S.sub (List.sublist_append_right _ _)
    refine apL S (.tail .head) ?_ (by rw [hvn]; exact Nat.le_trans (show _ ≤ 200 by (first | lia | omega)) (by decide)); intro s S
    refine wpAny_execs_nil (hQb _ _ ?_)
    refine (.inl ⟨rfl, _, _, S, m1, m2, _, n + 1, _, rfl, ?_⟩)
    rw [stopsF]
    refine hF.app (.cons ⟨t9, ?_⟩ .nil)
    rw [hsp.len]
  · rintro m zs s ⟨m1, m2, vs, n, ys, rfl, hF⟩ S
    refine sRet ?_
    refine nmL S m2 ?_
    refine hQf _ _ ?_
    exact ⟨_, _, rfl, S.grows, l, vs, n, rfl, .head _, hF⟩
end
end Mine
end
section
open PySem PySem.W PyProof.Rows PySem.Calls
set_option maxRecDepth 100000
set_option maxHeartbeats 2000000
namespace Mine
abbrev IsD (w : World) (o : Obj) (kvs : List (Str × Value)) : Prop := o.IsDictOf (strKind prog w) kvs
abbrev DOf (w : World) (h : Heap) (d : Addr) (kvs : List (Str × Value)) : Prop := h.DictOf (strKind prog w) d kvs
abbrev dict0 : Obj := { cls := .type "dict", data := .dict #[] }
theorem isD0 (w : World) : IsD w dict0 [] := ⟨#[], 0, ⟨rfl, rfl, rfl⟩, rfl, fun _ he => by simp at he, .nil, List.nodup_nil⟩
abbrev itob (d : Addr) (i n ep : Nat) (ok ov : Value) : Obj := { cls := .type "dict_itemiterator", dict := none, data := .fields #[.none, .bool false, .ref d, .int i 0, .int n 0, .int ep 0, ok, ov], slots := #[] }
section
variable {w : World} {A : Around} {E : Value → Shared → Prop} {s : Shared} {B : Bs} {L : Addr} {m mg : Str → Option Value} {zs : List (Addr × Obj)} {env : Env} {R : Result → Shared → Prop}
theorem isD (S : St B L m zs s) {d : Addr} {o : Obj} {kvs : List (Str × Value)} (h : (d, o) ∈ zs) (hd : IsD w o kvs) : DOf w s.heap d kvs := Heap.dictOf_iff.mpr ⟨o, S.get h, hd⟩
theorem isDb (S : St B L m zs s) {d : Addr} {kvs : List (Str × Value)} (h : DOf w B.h d kvs) : DOf w s.heap d kvs := h.keep S.F.keep
theorem nwD {pos : Pos} {Q : Value → Shared → Prop} (S : St B L m zs s) (GL : Gl mg B.h) (h : ∀ d s', (d == sysModules) = false → St B L m ((d, dict0) :: zs) s' → Q (.ref d) s') :
    wpAny (model prog w) A (eval (.Dict [] [] pos) env) Q E s := by
  refine wpAny_Dict_empty ?_
  exact h _ _ (S.F.notModules (let ⟨mc, hn, _⟩ := GL.lim; Nat.lt_of_le_of_lt (by decide) hn.lt)) (S.alloc dict0 s.toks)
theorem dSet {d : Addr} {o : Obj} {kvs : List (Str × Value)} {k : Str} {t : Tok} {v : Value} {g : Obj → List (Addr × Obj)} {Q : Unit → Shared → Prop} (S : St B L m zs s) (U : ∀ o', Up d o o' zs (g o')) (hd : IsD w o kvs) (hz : kvs.length ≤ sizeLine)
    (h : ∀ s' o', IsD w o' (stored kvs k v) → St B L m (g o') s' → Q () s') : wpAny (model prog w) A (setItem (.ref d) (.str k t) v) Q E s := by
  refine wpAny_setItem_pairs (hsz := hz) (strKind_is prog w k t) (isD S (U o).mem hd) fun h' hd' hs => ?_
  obtain ⟨o', ho', hdo⟩ := Heap.dictOf_iff.mp hd'
  exact h _ o' hdo (S.upd (U o') hs ho' _)
theorem dIn {d : Addr} {kvs : List (Str × Value)} {k : Str} {t : Tok} {Q : Value → Shared → Prop} (S : St B L m zs s) (hd : DOf w s.heap d kvs) (lo : (d == sysModules) = false)
    (h : ∀ s', St B L m zs s' → Q (.bool (valueAt kvs k).isSome) s') : wpAny (model prog w) A (compareOp .In (.str k t) (.ref d)) Q E s :=
  wpAny_in_of (strKind_is prog w k t) lo hd.mapOf (h _ (S.tk _))
theorem dGet {d : Addr} {kvs : List (Str × Value)} {k : Str} {t : Tok} {v : Value} {Q : Value → Shared → Prop} (S : St B L m zs s) (hd : DOf w s.heap d kvs) (hv : valueAt kvs k = some v)
    (h : ∀ s', St B L m zs s' → Q v s') : wpAny (model prog w) A (getItem (.ref d) (.str k t)) Q E s :=
  wpAny_getItem_of (strKind_is prog w k t) hd.mapOf hv (h _ (S.tk _))
/-- the method get, with what it gives when there is nothing -/
theorem gmGet2 {d : Addr} {kvs : List (Str × Value)} {pl : Sem Bool} {pos : Pos} {e e2 : Expr} {Q : Value → Shared → Prop} (hd : DOf w s.heap d kvs)
    (h : wpAny (model prog w) A (eval e env) (fun key s₁ => wpAny (model prog w) A (eval e2 env) (fun dflt s₂ => wpAny (model prog w) A (call (.builtin "dict.get") [.ref d, key, dflt]) Q E s₂) E s₁) E s)
    (hs : starEach [e, e2] env = [(false, eval e env), (false, eval e2 env)] := by rfl) :
    wpAny (model prog w) A (getMethod (.ref d) "get" pl) (fun fx s₂ => wpAny (model prog w) A (callWith pos fx.1 fx.2 (backTo pos (starEach [e, e2] env)) []) Q E s₂) E s := by
  obtain ⟨o, es, ep, ho, hx, r⟩ := hd
  refine getMethod_builtin ⟨o, ho, hx.1⟩ PySem.F.plainAttrs_dict PySem.F.slot_dict_get PySem.F.type_dict_get (fun a e => by cases e; exact ⟨o, ho, hx.2.1⟩) ?_
  rw [hs]
  exact callWith_builtin rfl (evalArgs_plain (spliced_cons (wpAny_mono h (fun v1 s₂ h2 => spliced_cons (wpAny_mono h2 (fun v2 s₃ h3 => spliced_nil h3) fun _ _ x => x)) fun _ _ x => x)))
theorem dGet2 {d : Addr} {kvs : List (Str × Value)} {k : Str} {t : Tok} {dflt : Value} {Q : Value → Shared → Prop} (S : St B L m zs s) (hd : DOf w s.heap d kvs) (lo : (d == sysModules) = false)
    (h : ∀ s', St B L m zs s' → Q ((valueAt kvs k).getD dflt) s') : wpAny (model prog w) A (call (.builtin "dict.get") [.ref d, .str k t, dflt]) Q E s := by
  obtain ⟨o, ho, hdo⟩ := Heap.dictOf_iff.mp hd
  exact kdg_get2 (h₀ := hideAll s.heap [d]) (L := d + 1) (news := [(d, o)]) (fun p hp => by obtain rfl := List.mem_singleton.mp hp; exact ⟨ho, Nat.ne_of_lt (Nat.lt_succ_self _), hideAll_none _ (.head _)⟩) (.head _) hdo lo (strKind_is prog w k t) _ rfl (h _ (S.tk _))
theorem sSub {o i : Expr} {p' pos : Pos} {value : Expr} {rest : List Stmt} {Q : Flow → Shared → Prop}
    (h : wpAny (model prog w) A (eval value env) (fun v s₁ => wpAny (model prog w) A (eval o env) (fun ov s₂ => wpAny (model prog w) A (eval i env) (fun iv s₃ => wpAny (model prog w) A (setItem ov iv v) (fun _ s₄ => wpAny (model prog w) A (execs rest env) Q E s₄) E s₃) E s₂) E s₁) E s)
    (hs : swapsWith value (some (.Subscript o i p')) pos.line env = pure false := by rfl) : wpAny (model prog w) A (execs (.Assign [.Subscript o i p'] value pos :: rest) env) Q E s :=
  wpAny_execs_cons (wpAny_Assign_Subscript h hs)
theorem sAug {o value : Expr} {x : Str} {px p' pos : Pos} {op : Operator} {rest : List Stmt} {Q : Flow → Shared → Prop}
    (h : wpAny (model prog w) A (eval o env) (fun ov s₁ => wpAny (model prog w) A (eval (.Name x px) env) (fun iv s₂ => wpAny (model prog w) A (getItem ov iv) (fun old s₃ => wpAny (model prog w) A (eval value env) (fun v s₄ => wpAny (model prog w) A (inplaceOp op old v) (fun new s₅ => wpAny (model prog w) A (setItem ov iv new) (fun _ s₆ => wpAny (model prog w) A (execs rest env) Q E s₆) E s₅) E s₄) E s₃) E s₂) E s₁) E s) :
    wpAny (model prog w) A (execs (.AugAssign (.Subscript o (.Name x px) p') op value pos :: rest) env) Q E s :=
  wpAny_execs_cons (wpAny_AugAssign_Subscript h)
theorem sTup {elts : List Expr} {k : Nat} {tpos pos : Pos} {value : Expr} {rest : List Stmt} {Q : Flow → Shared → Prop}
    (h : wpAny (model prog w) A (eval value env) (fun v s₁ => wpAny (model prog w) A (assign (.Tuple elts k tpos) env v) (fun _ s₂ => wpAny (model prog w) A (execs rest env) Q E s₂) E s₁) E s)
    (hs : swapsWithSole [.Tuple elts k tpos] value pos.line env = pure false := by rfl) (hw : swappedStores [.Tuple elts k tpos] value env = pure none := by rfl) :
    wpAny (model prog w) A (execs (.Assign [.Tuple elts k tpos] value pos :: rest) env) Q E s := wpAny_execs_cons (PyProof.Rows.Assign_Tuple h hs hw)
/-- one object turned, one come -/
theorem St.two {I : Addr} {io io' o2 : Obj} (S : St B L m ((I, io) :: zs) s) {h' : Heap} (h1 : h'.get? I = some io') (h2 : h'.get? s.heap.objs.size = some o2) (hk : ∀ b o, b ≠ I → s.heap.get? b = some o → h'.get? b = some o) (t : Nat) :
    St B L m ((I, io') :: (s.heap.objs.size, o2) :: zs) { s with heap := h', toks := t } := by
  have hI := S.N (I, io) (.head _)
  obtain ⟨oL, es, ep, hL, r⟩ := S.F.ns
  have nd := S.nd
  rw [List.map_cons, List.nodup_cons] at nd
  refine ⟨⟨⟨oL, es, ep, hk _ _ (Ne.symm hI.2.1) hL, r⟩, fun b o e => hk b o (fun z => ?_) (S.F.keep b o e), S.F.above⟩, fun p hp => ?_, ?_, S.G, S.O⟩
  · rw [z] at e; exact nomatch (e.symm.trans hI.2.2)
  · rcases List.mem_cons.mp hp with rfl | hp
    · exact ⟨h1, hI.2⟩
    · rcases List.mem_cons.mp hp with rfl | hp
      · refine ⟨h2, fun e => absurd (Heap.lt_size hL) (by rw [← e]; exact Nat.lt_irrefl _), ?_⟩
        cases q : B.h.get? s.heap.objs.size with
        | none => rfl
        | some o => exact absurd (Heap.lt_size (S.F.keep _ _ q)) (Nat.lt_irrefl _)
      · have := S.N p (.tail _ hp)
        exact ⟨hk _ _ (fun z => nd.1 (List.mem_map.mpr ⟨p, hp, z⟩)) this.1, this.2⟩
  · simp only [List.map_cons, List.nodup_cons]
    refine ⟨fun h => ?_, fun h => ?_, nd.2⟩
    · rcases List.mem_cons.mp h with e | h
      · exact absurd (Heap.lt_size hI.1) (by rw [e]; exact Nat.lt_irrefl _)
      · exact nd.1 h
    · obtain ⟨p, hp, e⟩ := List.mem_map.mp h
      exact absurd (Heap.lt_size (S.N p (.tail _ hp)).1) (by rw [e]; exact Nat.lt_irrefl _)
/-- for over a dict's items -/
theorem forD {elts : List Expr} {x1 : Nat} {tpos : Pos} {body : List Stmt} {I d : Addr} {kvs : List (Str × Value)} {ep : Nat} (hh : A.handled = none)
    (S : St B L m ((I, itob d 0 kvs.length ep .none .none) :: zs) s) (hsrc : B.h.DictAt (strKind prog w) d kvs ep)
    (J : Nat → (Str → Option Value) → List (Addr × Obj) → Prop) (h0 : J 0 m zs)
    (turn : ∀ i k v t T m₁ zs₁ s₁ io₁, kvs[i]? = some (k, v) → J i m₁ zs₁ → St B L m₁ ((I, io₁) :: (T, tob [.str k t, v]) :: zs₁) s₁ →
      wpAny (model prog w) A (assign (.Tuple elts x1 tpos) env (.ref T)) (fun _ s₂ => wpAny (model prog w) A (execs body env) (fun f s₃ =>
        (f = .next ∧ ∃ m₂ zs₂, St B L m₂ ((I, io₁) :: zs₂) s₃ ∧ J (i + 1) m₂ zs₂) ∨ ∃ v, f = .ret v ∧ R (.ok (.ret v)) s₃) (fun _ _ => False) s₂) (fun _ _ => False) s₁)
    (hR : ∀ m' zs' s', J kvs.length m' zs' → St B L m' zs' s' → R (.ok .next) s') :
    codeAny (model prog w) A (.forLoop (.Tuple elts x1 tpos) (.ref I) body [] env) R s := by
  refine codeAny_forLoop_any (fun n s' => ∃ i m' zs' ok ov, n + i = kvs.length ∧ J i m' zs' ∧ St B L m' ((I, itob d i kvs.length ep ok ov) :: zs') s') (fun n s' hI => ?_) kvs.length ⟨0, m, zs, .none, .none, rfl, h0, S⟩
  obtain ⟨i, m', zs', ok, ov, hn, hJ, S'⟩ := hI
  have hd := hsrc.keep S'.F.keep
  cases hv : kvs[i]? with
  | none =>
    have : i = kvs.length := by have := List.getElem?_eq_none_iff.mp hv; (first | lia | omega)
    subst this
    refine wpAny_pyNext_items_end hh (S'.get (.head _)) hd hv fun h₁ he₁ => wpAny_execs_nil ?_
    exact hR m' zs' _ hJ (S'.iterEnd he₁ s'.toks)
  | some kv =>
    obtain ⟨k, v⟩ := kv
    have hlt := (List.getElem?_eq_some_iff.mp hv).1
    refine wpAny_pyNext_items_item (S'.get (.head _)) hd hv fun key h₁ hkey heo ht hz hk => ?_
    obtain ⟨t, rfl⟩ := Value.isStrOf_shape hkey
    have S1 := S'.two heo ht hk s'.toks
    refine wpAny_letOwnedTupleGo_items heo fun h₂ he₂ hs₂ => ?_
    have S2 := S1.iter hs₂ he₂ s'.toks
    refine wpAny_mono (turn i k v t _ m' zs' _ _ hv hJ S2) (fun _ s₂ h₂ => wpAny_mono h₂ (fun f s₃ h₃ => ?_) fun _ _ x => x.elim) fun _ _ x => x.elim
    rcases h₃ with ⟨rfl, m₂, zs₂, S₃, hJ₂⟩ | ⟨v, rfl, hr⟩
    · exact ⟨n - 1, by (first | lia | omega), i + 1, m₂, zs₂, _, _, by (first | lia | omega), hJ₂, S₃⟩
    · exact hr
/-- d.items(), and its iterator -/
theorem dItems {o : Expr} {apos pos : Pos} {d : Addr} {kvs : List (Str × Value)} {ep : Nat} {Q : Value → Shared → Prop} (S : St B L m zs s) (hsrc : B.h.DictAt (strKind prog w) d kvs ep) (lo : (d == sysModules) = false)
    (ho : ∀ Q', Q' (.ref d) s → wpAny (model prog w) A (eval o env) Q' E s)
    (h : ∀ I s', St B L m ((I, itob d 0 kvs.length ep .none .none) :: zs) s' → Q (.ref I) s')
    (hbase : attributeBase o "items" env (eval o env) = eval o env := by rfl) (hline : (apos.endLine == pos.line) = true := by rfl) :
    wpAny (model prog w) A (eval (.Call (.Attribute o "items" apos) [] [] pos) env) (fun x s₁ => wpAny (model prog w) A (pyIter x) Q E s₁) E s := by
  have hd := hsrc.keep S.F.keep
  refine wpAny_Call_items lo hd.dictOf hbase hline ho ?_
  have S1 := S.alloc { cls := .type "dict_items", data := .fields #[.ref d] } s.toks
  refine wpAny_pyIter_items ⟨_, S1.get (.head _), rfl, rfl⟩ (hsrc.keep S1.F.keep) ?_
  exact h _ _ (S1.drop1.alloc _ s.toks)
end
end Mine
end
section
open PySem PySem.W PyProof.Rows PySem.Calls
set_option maxRecDepth 100000
set_option maxHeartbeats 2000000
namespace Mine
abbrev CD := List (Str × Int)
def stI {α : Type} (c : List (Str × α)) (k : Str) (v : α) : List (Str × α) := if c.any (fun kv => kv.1 = k) then c.map (fun kv => if kv.1 = k then (kv.1, v) else kv) else c ++ [(k, v)]
def vI {α : Type} (c : List (Str × α)) (k : Str) : Option α := (c.find? fun kv => kv.1 = k).map (·.2)
def KVr {α : Type} (R : Value → α → Prop) (p : Str × Value) (q : Str × α) : Prop := p.1 = q.1 ∧ R p.2 q.2
abbrev KV := KVr IntV
def cpC (t : CD) : CD := t.foldl (fun acc p => stI acc p.1 p.2) []
def adC (acc : CD) (p : Str × Int) : CD := stI acc p.1 (match vI acc p.1 with | some x => x + p.2 | none => p.2)
def addC (t s : CD) : CD := s.foldl adC (cpC t)
theorem stI_len {α : Type} (c : List (Str × α)) (k : Str) (v : α) : (stI c k v).length ≤ c.length + 1 := by
  unfold stI
  split <;> simp
theorem cpC_len (t : CD) : (cpC t).length ≤ t.length := by
  have : ∀ (t acc : CD), (t.foldl (fun acc p => stI acc p.1 p.2) acc).length ≤ acc.length + t.length := by
    intro t
    induction t with
    | nil => intro acc; simp
    | cons p r ih => intro acc; have := ih (stI acc p.1 p.2); have := stI_len acc p.1 p.2; simp only [List.foldl_cons, List.length_cons] at *; (first | lia | omega)
  have h := this t []
  simp only [List.length_nil, Nat.zero_add] at h
  exact h
theorem adC_len (t s : CD) : (s.foldl adC t).length ≤ t.length + s.length := by
  induction s generalizing t with
  | nil => simp
  | cons p r ih =>
    have h1 := ih (adC t p)
    have h2 : (adC t p).length ≤ t.length + 1 := stI_len _ _ _
    simp only [List.foldl_cons, List.length_cons] at *
    (first | lia | omega)
theorem Fa.any {α : Type} {R : Value → α → Prop} {kvs : List (Str × Value)} {c : List (Str × α)} (h : Fa (KVr R) kvs c) (k : Str) : kvs.any (fun kv => kv.1 = k) = c.any (fun kv => kv.1 = k) := by
  induction h with
  | nil => rfl
  | cons x _ ih => simp only [List.any_cons, ih, x.1]
theorem Fa.valueAt {α : Type} {R : Value → α → Prop} {kvs : List (Str × Value)} {c : List (Str × α)} (h : Fa (KVr R) kvs c) (k : Str) : (vI c k = none ∧ PySem.valueAt kvs k = none) ∨ ∃ x v, vI c k = some x ∧ PySem.valueAt kvs k = some v ∧ R v x := by
  induction h with
  | nil => exact .inl ⟨rfl, rfl⟩
  | @cons a b l r x _ ih =>
    unfold vI PySem.valueAt
    by_cases e : b.1 = k
    · right
      refine ⟨b.2, a.2, ?_, ?_, x.2⟩
      · rw [List.find?_cons_of_pos (by simpa using e)]; rfl
      · rw [List.find?_cons_of_pos (by simpa [x.1] using e)]; rfl
    · rw [List.find?_cons_of_neg (by simpa using e), List.find?_cons_of_neg (by simpa [x.1] using e)]
      exact ih
theorem Fa.storedMap {α : Type} {R : Value → α → Prop} {kvs : List (Str × Value)} {c : List (Str × α)} (h : Fa (KVr R) kvs c) (k : Str) {v : Value} {y : α} (hv : R v y) : Fa (KVr R) (kvs.map fun kv => if kv.1 = k then (kv.1, v) else kv) (c.map fun kv => if kv.1 = k then (kv.1, y) else kv) := by
  induction h with
  | nil => exact .nil
  | @cons a b l r x _ ih =>
    simp only [List.map_cons]
    refine .cons ?_ ih
    by_cases e : b.1 = k
    · rw [if_pos e, if_pos (x.1.trans e)]; exact ⟨x.1, hv⟩
    · rw [if_neg e, if_neg (by rw [x.1]; exact e)]; exact x
theorem Fa.stored {α : Type} {R : Value → α → Prop} {kvs : List (Str × Value)} {c : List (Str × α)} (h : Fa (KVr R) kvs c) (k : Str) {v : Value} {y : α} (hv : R v y) : Fa (KVr R) (PySem.stored kvs k v) (stI c k y) := by
  unfold PySem.stored stI
  rw [h.any k]
  split
  · exact h.storedMap k hv
  · exact h.app (.cons ⟨rfl, hv⟩ .nil)
section
variable {w : World} {A : Around} {s₀ : Shared} {mg : Str → Option Value}
theorem addcallers_spec {f dt ds : Addr} {kt ks : List (Str × Value)} {ct cs : CD} (GL : Gl mg s₀.heap) (hm1 : mg "isinstance" = none) (hm2 : mg "tuple" = none) (hfn : Fn s₀.heap f "add_callers" 4 .none .none) (hA : Rm A 1)
    (ht : DOf w s₀.heap dt kt) (hs : DOf w s₀.heap ds ks) (lt : (dt == sysModules) = false) (ls : (ds == sysModules) = false) (hft : Fa KV kt ct) (hfs : Fa KV ks cs) (hlt : ct.length ≤ 100) (hls : cs.length ≤ 100) :
    Tells w A (.ref f) ⟨[.ref dt, .ref ds], []⟩ (fun v ys => ∃ d o kv, v = .ref d ∧ (d, o) ∈ ys ∧ IsD w o kv ∧ (d == sysModules) = false ∧ Fa KV kv (addC ct cs)) s₀ := by
  obtain ⟨ept, ht⟩ := ht.dictAt
  obtain ⟨eps, hs⟩ := hs.dictAt
  have hkt := hft.len
  have hks := hfs.len
  refine callDef0 [("target", .ref dt), ("source", .ref ds)] hfn GL.lim hA (fun _ _ _ _ _ => BindsTo.of_eq rfl) ?_
  intro A' L cd s hA' S
  refine hideQ ?_; intro Qf hQf
  have hh' := hA'.hh
  refine sAsg ?_
  refine nwD S GL ?_; intro d s lo S
  refine stL S ?_; intro s S
  refine sFor ?_
  refine dItems S ht lt (fun Q' h => nmL S rfl h) ?_; intro I s S
  refine forD hh' S ht (fun i m zs => m "source" = some (.ref ds) ∧ m "new_callers" = some (.ref d) ∧ i ≤ kt.length ∧ ∃ o kv ys, zs = (d, o) :: ys ∧ IsD w o kv ∧ Fa KV kv (cpC (ct.take i))) ⟨rfl, rfl, by (first | lia | omega), dict0, [], [], rfl, isD0 w, .nil⟩ ?_ ?_
  · intro i k v t T m zs s io hkv hJ S
    refine hideQ2 ?_; intro Qb hQb
    obtain ⟨m1, m2, hi, o, kv, ys, rfl, ho, hf⟩ := hJ
    have hlt' := (List.getElem?_eq_some_iff.mp hkv).1
    obtain ⟨kv', hkv', hkn, tv, hv'⟩ := hft.get (i := i) (b := ct[i]'(by (first | lia | omega))) (by simp [show i < ct.length by (first | lia | omega)])
    obtain rfl : (k, v) = kv' := Option.some.inj (hkv.symm.trans hkv')
    simp only at hkn hv'
    subst hv' hkn
    refine unT S hh' (isT S (.tail _ (.head _))) rfl rfl ?_; intro s S
    refine aio ?_
    refine stL S ?_; intro s S
    refine aio ?_
    refine stL S ?_; intro s S
    refine aio0 ?_
    refine sSub ?_
    refine nmL S rfl ?_
    refine nmL S (by exact m2) ?_
    refine nmL S rfl ?_
    have hcl := cpC_len (ct.take i)
    refine dSet S (fun o' => .tail (.tail .head)) ho (by rw [hf.len]; exact Nat.le_trans hcl (by simp; exact Nat.le_trans (show _ ≤ 100 by (first | lia | omega)) (by decide))) ?_
    intro s o' ho' S
    refine wpAny_execs_nil (hQb _ _ ?_)
    refine (.inl ⟨rfl, _, _, S.drop2, m1, m2, by (first | lia | omega), o', _, _, rfl, ho', ?_⟩)
    rw [List.take_succ_eq_append_getElem (show i < ct.length by (first | lia | omega))]
    unfold cpC
    rw [List.foldl_append]
    exact hf.stored _ ⟨_, rfl⟩
  rintro m zs s ⟨m1, m2, _, o, kv, ys, rfl, ho, hf⟩ S
  rw [hkt, List.take_length] at hf
  refine sFor ?_
  refine dItems S hs ls (fun Q' h => nmL S m1 h) ?_; intro I s S
  refine forD hh' S hs (fun i m zs => m "new_callers" = some (.ref d) ∧ i ≤ ks.length ∧ ∃ o kv ys, zs = (d, o) :: ys ∧ IsD w o kv ∧ Fa KV kv ((cs.take i).foldl adC (cpC ct))) ⟨m2, by (first | lia | omega), o, kv, _, rfl, ho, hf⟩ ?_ ?_
  · intro i k v t T m zs s io hkv hJ S
    refine hideQ2 ?_; intro Qb hQb
    obtain ⟨m2, hi, o, kv, ys, rfl, ho, hf⟩ := hJ
    have hlt' := (List.getElem?_eq_some_iff.mp hkv).1
    obtain ⟨kv', hkv', hkn, tv, hv'⟩ := hfs.get (i := i) (b := cs[i]'(by (first | lia | omega))) (by simp [show i < cs.length by (first | lia | omega)])
    obtain rfl : (k, v) = kv' := Option.some.inj (hkv.symm.trans hkv')
    simp only at hkn hv'
    subst hv' hkn
    have hcl := adC_len (cpC ct) (cs.take i)
    have hcl2 := cpC_len ct
    have hsz : kv.length ≤ sizeLine := by rw [hf.len]; refine Nat.le_trans hcl ?_; simp; exact Nat.le_trans (show _ ≤ 300 by (first | lia | omega)) (by decide)
    have key : ∀ x t', x = (match vI ((cs.take i).foldl adC (cpC ct)) cs[i].1 with | some x => x + cs[i].2 | none => cs[i].2) → Fa KV (PySem.stored kv cs[i].1 (.int x t')) ((cs.take (i + 1)).foldl adC (cpC ct)) := by
      intro x t' hx
      rw [List.take_succ_eq_append_getElem (show i < cs.length by (first | lia | omega)), List.foldl_append]
      show Fa KV _ (adC _ _)
      unfold adC
      rw [hx]
      exact hf.stored _ ⟨_, rfl⟩
    refine unT S hh' (isT S (.tail _ (.head _))) rfl rfl ?_; intro s S
    refine aio ?_
    refine stL S ?_; intro s S
    refine aio ?_
    refine stL S ?_; intro s S
    refine aio0 ?_
    refine sIf ?_
    refine wpAny_isTrue_Compare1 ?_
    refine nmL S rfl ?_
    refine nmL S (by exact m2) ?_
    refine dIn S (isD S (.tail _ (.tail _ (.head _))) ho) lo ?_; intro s S
    refine tB ?_
    rcases hf.valueAt cs[i].1 with ⟨hn, hn'⟩ | ⟨x, _, hx, hx', tx, rfl⟩
    · rw [hn', if_neg (by simp)]
      refine sSub ?_
      refine nmL S rfl ?_
      refine nmL S (by exact m2) ?_
      refine nmL S rfl ?_
      refine dSet S (fun o' => .tail (.tail .head)) ho hsz ?_
      intro s o' ho' S
      refine wpAny_execs_nil ?_
      refine wpAny_execs_nil (hQb _ _ ?_)
      refine (.inl ⟨rfl, _, _, S.drop2, m2, by (first | lia | omega), o', _, _, rfl, ho', key _ _ (by rw [hn])⟩)
    · rw [hx', if_pos (by simp)]
      refine sIf ?_
      refine wpAny_isTrue_value ?_
      refine cB2 (id := "isinstance") ?_
      refine nmB S GL hm1 (by rfl) ?_
      refine ⟨rfl, ?_⟩
      refine nmL S rfl ?_
      refine nmB S GL hm2 (by rfl) ?_
      refine PySem.IsiPair.int_tuple ?_
      replace S := S.tk (s.toks + 1)
      refine tB ?_
      rw [if_neg (by simp)]
      refine sAug ?_
      refine nmL S (by exact m2) ?_
      refine nmL S rfl ?_
      refine dGet S (isD S (.tail _ (.tail _ (.head _))) ho) hx' ?_; intro s S
      refine nmL S rfl ?_
      refine PyProof.Rows.iadd_int ?_
      replace S := S.tk (s.toks + 1)
      refine dSet S (fun o' => .tail (.tail .head)) ho hsz ?_
      intro s o' ho' S
      refine wpAny_execs_nil ?_
      refine wpAny_execs_nil ?_
      refine wpAny_execs_nil (hQb _ _ ?_)
      refine (.inl ⟨rfl, _, _, S.drop2, m2, by (first | lia | omega), o', _, _, rfl, ho', key _ _ (by rw [hx])⟩)
  · rintro m zs s ⟨m2, _, o, kv, ys, rfl, ho, hf⟩ S
    rw [hks, List.take_length] at hf
    refine sRet ?_
    refine nmL S m2 ?_
    refine hQf _ _ ?_
    exact ⟨_, _, rfl, S.grows, d, o, kv, rfl, .head _, ho, lo, hf⟩
end
end Mine
end
section
open PySem PySem.W PyProof.Rows PySem.Calls
set_option maxRecDepth 100000
set_option maxHeartbeats 2000000
namespace Mine
structure En where
  cc : Int
  nc : Int
  tt : Int
  ct : Int
  cd : CD
def addE (t s : En) : En := ⟨s.cc + t.cc, s.nc + t.nc, s.tt + t.tt, s.ct + t.ct, addC t.cd s.cd⟩
def zeroE : En := ⟨0, 0, 0, 0, []⟩
def EnV (w : World) (R : Addr → Obj → Prop) (v : Value) (e : En) : Prop :=
  ∃ t a b c d dd o kv, v = .ref t ∧ R t (tob [.int e.cc a, .int e.nc b, .int e.tt c, .int e.ct d, .ref dd]) ∧ R dd o ∧ IsD w o kv ∧ (dd == sysModules) = false ∧ Fa KV kv e.cd
theorem EnV.mono {w : World} {R R' : Addr → Obj → Prop} {v e} (h : EnV w R v e) (hm : ∀ a o, R a o → R' a o) : EnV w R' v e := by
  obtain ⟨t, a, b, c, d, dd, o, kv, h1, h2, h3, r⟩ := h
  exact ⟨t, a, b, c, d, dd, o, kv, h1, hm _ _ h2, hm _ _ h3, r⟩
section
variable {w : World} {A : Around} {s₀ : Shared} {mg : Str → Option Value}
theorem addfs_spec {f fa : Addr} {vt vs : Value} {et es : En} (GL : Gl mg s₀.heap) (hm1 : mg "isinstance" = none) (hm2 : mg "tuple" = none) (hma : mg "add_callers" = some (.ref fa)) (hfa : Fn s₀.heap fa "add_callers" 4 .none .none) (hfn : Fn s₀.heap f "add_func_stats" 3 .none .none) (hA : Rm A 2)
    (ht : EnV w (On s₀.heap) vt et) (hs : EnV w (On s₀.heap) vs es) (hlt : et.cd.length ≤ 100) (hls : es.cd.length ≤ 100) :
    Tells w A (.ref f) ⟨[vt, vs], []⟩ (fun v ys => EnV w (In ys) v (addE et es)) s₀ := by
  refine callDef0 [("target", vt), ("source", vs)] hfn GL.lim hA (fun _ _ _ _ _ => BindsTo.of_eq rfl) ?_
  intro A' L cd s hA' S
  have hh' := hA'.hh
  obtain ⟨t, a, b, c, d, dt, ot, kt, rfl, ht1, ht2, ht3, ht4, ht5⟩ := ht
  obtain ⟨u, a', b', c', d', ds, os, ks, rfl, hs1, hs2, hs3, hs4, hs5⟩ := hs
  refine sTup ?_
  refine nmL S rfl ?_
  refine unT S hh' (isTb S ⟨_, hs1, rfl, 0, rfl⟩) rfl rfl ?_; intro s S
  refine aio ?_
  refine stL S ?_; intro s S
  refine aio ?_
  refine stL S ?_; intro s S
  refine aio ?_
  refine stL S ?_; intro s S
  refine aio ?_
  refine stL S ?_; intro s S
  refine aio ?_
  refine stL S ?_; intro s S
  refine aio0 ?_
  refine sTup ?_
  refine nmL S rfl ?_
  refine unT S hh' (isTb S ⟨_, ht1, rfl, 0, rfl⟩) rfl rfl ?_; intro s S
  refine aio ?_
  refine stL S ?_; intro s S
  refine aio ?_
  refine stL S ?_; intro s S
  refine aio ?_
  refine stL S ?_; intro s S
  refine aio ?_
  refine stL S ?_; intro s S
  refine aio ?_
  refine stL S ?_; intro s S
  refine aio0 ?_
  refine sRet ?_
  refine Tuple_ ?_
  refine spC ?_
  refine wpAny_BinOp ?_
  refine nmL S rfl ?_
  refine nmL S rfl ?_
  refine iAdd S ?_; intro t1 s S
  refine spC ?_
  refine wpAny_BinOp ?_
  refine nmL S rfl ?_
  refine nmL S rfl ?_
  refine iAdd S ?_; intro t2 s S
  refine spC ?_
  refine wpAny_BinOp ?_
  refine nmL S rfl ?_
  refine nmL S rfl ?_
  refine iAdd S ?_; intro t3 s S
  refine spC ?_
  refine wpAny_BinOp ?_
  refine nmL S rfl ?_
  refine nmL S rfl ?_
  refine iAdd S ?_; intro t4 s S
  refine spC ?_
  refine call2 (B := Bs.of s₀) (L := L) hfa ?_
  refine nmG S GL hma ?_
  refine ⟨rfl, ?_⟩
  refine nmL S rfl ?_
  refine nmL S rfl ?_
  refine ⟨⟨_, _, S⟩, ?_⟩
  refine callC S (addcallers_spec (GL.keeps S.F.keep) hm1 hm2 (hfa.keeps S.F.keep) hA' (isDb S (Heap.dictOf_iff.mpr ⟨_, ht2, ht3⟩)) (isDb S (Heap.dictOf_iff.mpr ⟨_, hs2, hs3⟩)) ht4 hs4 ht5 hs5 hlt hls) ?_
  rintro r zs2 s ⟨d, o, kv, rfl, hm, hd, lo, hf⟩ S
  refine spN ?_
  refine nwT S ?_; intro q s S
  exact ⟨_, _, rfl, S.grows, q, t1, t2, t3, t4, d, o, kv, rfl, .head _, .tail _ (List.mem_append_left _ hm), hd, lo, hf⟩
end
end Mine
end
section
open PySem PySem.W PyProof.Rows PySem.Calls
set_option maxRecDepth 100000
set_option maxHeartbeats 2000000
namespace Mine
theorem Fa.strs {vs : List Value} {xs : List Str} (h : Fa StrV vs xs) : StrsAre vs xs := by
  induction h with
  | nil => exact .nil
  | cons x _ ih => obtain ⟨t, rfl⟩ := x; exact .cons _ t ih
theorem Fa.ints {vs : List Value} {xs : List Int} (h : Fa IntV vs xs) : IntsAre vs xs := by
  induction h with
  | nil => exact .nil
  | cons x _ ih => obtain ⟨t, rfl⟩ := x; exact .cons _ t ih
def atF (sp : List Int) (i : Nat) : Nat → Int
  | 0 => i
  | j + 1 => sp.getD (atF sp i j).toNat 0
abbrev LnT := List (Int × Int × Str)
def abvF (ln : LnT) (sp : List Int) (i n : Nat) : List Str := (List.range n).map fun j => (ln.getD (atF sp i (j + 1)).toNat default).2.2
def oneC : List Str → CD
  | [] => []
  | c :: _ => [(c, 1)]
/-- what one call of the line adds -/
def evP (ln : LnT) (sp q : List Int) (i : Nat) : Str × En :=
  let it := ln.getD i default
  let ab := abvF ln sp i (it.1 - 2).toNat
  (it.2.2, ⟨if ab.any (· == it.2.2) then 0 else 1, 1, it.1 - 2, q.getD i 0, oneC ab⟩)
def putE (bk : List (Str × En)) (p : Str × En) : List (Str × En) := stI bk p.1 (addE ((vI bk p.1).getD zeroE) p.2)
def profF (ln : LnT) (sp q : List Int) (n : Nat) : List (Str × En) := ((List.range n).map (evP ln sp q)).foldl putE []
theorem profF_succ (ln : LnT) (sp q : List Int) (n : Nat) : profF ln sp q (n + 1) = putE (profF ln sp q n) (evP ln sp q n) := by
  unfold profF
  rw [List.range_succ, List.map_append, List.foldl_append]
  rfl
theorem profF_len (ln : LnT) (sp q : List Int) : ∀ n, (profF ln sp q n).length ≤ n
  | 0 => Nat.le_refl 0
  | n + 1 => by rw [profF_succ]; exact Nat.le_trans (stI_len _ _ _) (Nat.succ_le_succ (profF_len ln sp q n))
def CdLe (k : Nat) (bk : List (Str × En)) : Prop := ∀ p ∈ bk, p.2.cd.length ≤ k
theorem vI_mem {α : Type} {c : List (Str × α)} {k : Str} {x : α} (h : vI c k = some x) : ∃ k', (k', x) ∈ c := by
  unfold vI at h
  cases e : c.find? (fun kv => kv.1 = k) with
  | none => rw [e] at h; cases h
  | some p => rw [e] at h; obtain rfl := Option.some.inj h; exact ⟨p.1, List.mem_of_find?_eq_some e⟩
theorem CdLe.put {k : Nat} {bk : List (Str × En)} (h : CdLe k bk) {p : Str × En} (hp : p.2.cd.length ≤ 1) : CdLe (k + 1) (putE bk p) := by
  intro q hq
  have hv : (addE ((vI bk p.1).getD zeroE) p.2).cd.length ≤ k + 1 := by
    have h0 : ((vI bk p.1).getD zeroE).cd.length ≤ k := by
      cases e : vI bk p.1 with
      | none => exact Nat.zero_le _
      | some x => obtain ⟨k', hm⟩ := vI_mem e; exact h _ hm
    have h1 := adC_len (cpC ((vI bk p.1).getD zeroE).cd) p.2.cd
    have h2 := cpC_len ((vI bk p.1).getD zeroE).cd
    show (addC _ _).length ≤ _
    unfold addC
    (first | lia | omega)
  unfold putE stI at hq
  split at hq
  · obtain ⟨r, hr, rfl⟩ := List.mem_map.mp hq
    split
    · exact hv
    · exact Nat.le_succ_of_le (h r hr)
  · rcases List.mem_append.mp hq with hq | hq
    · exact Nat.le_succ_of_le (h q hq)
    · obtain rfl := List.mem_singleton.mp hq
      exact hv
theorem oneC_len (ab : List Str) : (oneC ab).length ≤ 1 := by cases ab <;> simp [oneC]
theorem profF_cd (ln : LnT) (sp q : List Int) : ∀ n, CdLe n (profF ln sp q n)
  | 0 => fun _ h => nomatch h
  | n + 1 => by rw [profF_succ]; exact (profF_cd ln sp q n).put (oneC_len _)
section
variable {w : World} {A : Around} {E : Value → Shared → Prop} {s : Shared} {B : Bs} {L : Addr} {m mg : Str → Option Value} {zs : List (Addr × Obj)} {env : Env}
theorem nwD1 {k v : Expr} {pos : Pos} {Q : Value → Shared → Prop} (S : St B L m zs s) (GL : Gl mg B.h)
    (h : ∀ d s', (d == sysModules) = false → St B L m ((d, dict0) :: zs) s' → wpAny (model prog w) A (eval k env) (fun kv s₁ => wpAny (model prog w) A (eval v env) (fun vv s₂ => ∃ x t m' zs', kv = .str x t ∧ St B L m' ((d, dict0) :: zs') s₂ ∧
      ∀ s' o, IsD w o [(x, vv)] → St B L m' ((d, o) :: zs') s' → Q (.ref d) s') E s₁) E s') : wpAny (model prog w) A (eval (.Dict [some k] [v] pos) env) Q E s := by
  refine wpAny_Dict_walk (knd := strKind prog w) rfl rfl (by simp) (by simp) ?_
  refine evalPairs_cons (wpAny_mono (h _ _ (S.F.notModules (let ⟨mc, hn, _⟩ := GL.lim; Nat.lt_of_le_of_lt (by decide) hn.lt)) (S.alloc dict0 s.toks)) (fun kv s₁ h₁ => ?_) fun _ _ x => x)
  refine wpAny_bind (wpAny_mono h₁ (fun vv s₂ h₂ => ?_) fun _ _ x => x)
  refine wpAny_bind (wpAny_standAt (wpAny_pure ?_))
  refine evalPairs_nil ?_
  obtain ⟨x, t, m', zs', rfl, S₂, hq⟩ := h₂
  refine ⟨[(x, vv)], ⟨strKind_is prog w x t, rfl, trivial⟩, isD S₂ (.head _) (isD0 w), fun h' hd' hs' => ?_⟩
  obtain ⟨o', ho', hdo⟩ := Heap.dictOf_iff.mp hd'
  exact hq _ o' hdo (S₂.upd .head hs' ho' _)
theorem St.skip {x y y' : List (Addr × Obj)} (S : St B L m (x ++ y) s) (h : y'.Sublist y) : St B L m (x ++ y') s := S.sub (List.Sublist.append (List.Sublist.refl x) h)
theorem St.front2 {x y : List (Addr × Obj)} {p q : Addr × Obj} (S : St B L m (x ++ (p :: q :: y)) s) : St B L m (p :: q :: (x ++ y)) s :=
  S.perm ((List.Perm.cons p (List.perm_middle (l₁ := x)).symm).trans (List.perm_middle (l₁ := x)).symm)
theorem St.front3 {x y : List (Addr × Obj)} {p q r : Addr × Obj} (S : St B L m (x ++ (p :: q :: r :: y)) s) : St B L m (p :: q :: r :: (x ++ y)) s :=
  S.perm ((List.Perm.cons p ((List.Perm.cons q (List.perm_middle (l₁ := x)).symm).trans (List.perm_middle (l₁ := x)).symm)).trans (List.perm_middle (l₁ := x)).symm)
theorem tL {l : Addr} {vs : List Value} {Q : Bool → Shared → Prop} (S : St B L m zs s) (hl : s.heap.IsList l vs.toArray) (hz : vs.length ≤ 10000) (h : ∀ s', St B L m zs s' → Q (!vs.isEmpty) s') : wpAny (model prog w) A (truthy (.ref l)) Q E s :=
  wpAny_truthy_list hl (by simp; (first | lia | omega)) (by rw [List.isEmpty_toArray]; exact h _ (S.tk _))
end
section
variable {w : World} {A : Around} {s₀ : Shared} {mg : Str → Option Value}
theorem profile_spec {f fs fa ll sl ql : Addr} {us su qu : List Value} {ln : LnT} {sp q : List Int} (GL : Gl mg s₀.heap) (hm1 : mg "isinstance" = none) (hm2 : mg "tuple" = none) (hm3 : mg "range" = none) (hm4 : mg "len" = none)
    (hma : mg "add_callers" = some (.ref fa)) (hfa : Fn s₀.heap fa "add_callers" 4 .none .none) (hms : mg "add_func_stats" = some (.ref fs)) (hfs : Fn s₀.heap fs "add_func_stats" 3 .none .none) (hfn : Fn s₀.heap f "_law_profile" 20 .none .none) (hA : Rm A 3)
    (hll : s₀.heap.IsList ll us.toArray) (hln : Fa (Trip (On s₀.heap)) us ln) (hsl : s₀.heap.IsList sl su.toArray) (hsp : Fa IntV su sp) (hql : s₀.heap.IsList ql qu.toArray) (hq : Fa IntV qu q)
    (e1 : sp.length = ln.length) (e2 : q.length = ln.length) (hlen : ln.length ≤ 90) (hdot : ∀ x ∈ ln, 0 ≤ x.1 ∧ x.1 ≤ 90)
    (hch : ∀ i j : Nat, i < ln.length → (j : Int) < (ln.getD i default).1 - 2 → 0 ≤ atF sp i (j + 1) ∧ atF sp i (j + 1) < ln.length) :
    Tells w A (.ref f) ⟨[.ref ll, .ref sl, .ref ql], []⟩ (fun v ys => ∃ d o kv, v = .ref d ∧ (d, o) ∈ ys ∧ IsD w o kv ∧ (d == sysModules) = false ∧ Fa (KVr (EnV w (In ys))) kv (profF ln sp q ln.length)) s₀ := by
  have hul := hln.len
  have hsul := hsp.len
  have hqul := hq.len
  refine callDef0 [("line", .ref ll), ("spots", .ref sl), ("queue", .ref ql)] hfn GL.lim hA (fun _ _ _ _ _ => BindsTo.of_eq rfl) ?_
  intro A' L cd s hA' S
  refine hideQ ?_; intro Qf hQf
  have hh' := hA'.hh
  refine sAsg ?_
  refine nwD S GL ?_; intro d s lo S
  refine stL S ?_; intro s S
  refine sFor ?_
  refine cT1 (id := "range") ?_
  refine nmB S GL hm3 (by rfl) ?_
  refine ⟨rfl, ?_⟩
  refine cB1 (id := "len") ?_
  refine nmB S GL hm4 (by rfl) ?_
  refine ⟨rfl, ?_⟩
  refine nmL S rfl ?_
  refine lenL S (isLb S hll) (by (first | lia | omega)) ?_; intro t1 s S
  refine rng1 S ?_; intro r u v s S
  refine rngIt (k := us.length) S (by (first | lia | omega)) (by (first | lia | omega)) (by (first | lia | omega)) (by (first | lia | omega)) (by (first | lia | omega)) ?_; intro I s S
  refine forR hh' S rfl (fun i m zs => (m "line" = some (.ref ll) ∧ m "spots" = some (.ref sl) ∧ m "queue" = some (.ref ql) ∧ m "book" = some (.ref d)) ∧ ∃ o kv ys, zs = (d, o) :: ys ∧ IsD w o kv ∧ Fa (KVr (EnV w (In ys))) kv (profF ln sp q i))
    ⟨⟨rfl, rfl, rfl, rfl⟩, dict0, [], [], rfl, isD0 w, .nil⟩ ?_ ?_
  · intro i tk m zs s io hlt hJ S
    refine hideQ2 ?_; intro Qb hQb
    obtain ⟨⟨m1, m2, m3, m4⟩, ob, kv, ys, rfl, hob, hF⟩ := hJ
    rw [Int.zero_add]
    have hi : i < ln.length := by (first | lia | omega)
    obtain ⟨v, hv, t, ta, tb, tc, rfl, hm⟩ := hln.get (i := i) (b := ln[i]) (by simp [hi])
    have hit : ln.getD i default = ln[i] := by simp [hi]
    have hdi := hdot ln[i] (List.getElem_mem hi)
    obtain ⟨vq, hvq, tq, rfl⟩ := hq.get (i := i) (b := q.getD i 0) (by simp [show i < q.length by (first | lia | omega)])
    have hch' := fun j => hch i j hi
    rw [hit] at hch'
    have hev : evP ln sp q i = (ln[i].2.2, ⟨if (abvF ln sp i (ln[i].1 - 2).toNat).any (· == ln[i].2.2) then 0 else 1, 1, ln[i].1 - 2, q.getD i 0, oneC (abvF ln sp i (ln[i].1 - 2).toNat)⟩) := by unfold evP; rw [hit]
    generalize ln[i] = it at *
    refine asN ?_
    refine stL S ?_; intro s S
    refine sTup ?_
    refine Subscript_ ?_
    refine nmL S (by exact m1) ?_
    refine nmL S rfl ?_
    refine itL (isLb S hll) (by (first | lia | omega)) (by simpa using hv) ?_ (by (first | lia | omega))
    refine unT S hh' (isTb S ⟨_, hm, rfl, 0, rfl⟩) rfl rfl ?_; intro s S
    refine aio ?_
    refine stL S ?_; intro s S
    refine aio ?_
    refine stL S ?_; intro s S
    refine aio ?_
    refine stL S ?_; intro s S
    refine aio0 ?_
    refine sAsg ?_
    refine nmL S rfl ?_
    refine stL S ?_; intro s S
    refine sAsg ?_
    refine List_ ?_
    refine spN ?_
    refine nwL S ?_; intro ab s S
    refine stL S ?_; intro s S
    refine sFor ?_
    refine cT1 (id := "range") ?_
    refine nmB S GL hm3 (by rfl) ?_
    refine ⟨rfl, ?_⟩
    refine wpAny_BinOp ?_
    refine nmL S rfl ?_
    refine cI S ?_; intro t2 s S
    refine iSub S ?_; intro t3 s S
    refine rng1 S ?_; intro r u v s S
    have hlow : -16384 ≤ it.1 - 2 := by (first | lia | omega)
    refine rngIt (k := (it.1 - 2).toNat) S (by simp) (by (first | lia | omega)) (by (first | lia | omega)) (by (first | lia | omega)) (by (first | lia | omega)) ?_; intro I2 s S
    refine forR hh' S rfl (fun j m zs => (m "line" = some (.ref ll) ∧ m "spots" = some (.ref sl) ∧ m "queue" = some (.ref ql) ∧ m "book" = some (.ref d) ∧ m "i" = some (.int i tk) ∧ m "dots" = some (.int it.1 ta) ∧ m "name" = some (.str it.2.2 tc) ∧ m "above" = some (.ref ab)) ∧
        ∃ vs n tat, zs = (ab, lob vs n) :: (I, io) :: (d, ob) :: ys ∧ m "at" = some (.int (atF sp i j) tat) ∧ Fa StrV vs (abvF ln sp i j))
      ⟨⟨m1, m2, m3, m4, rfl, rfl, rfl, rfl⟩, [], 0, tk, rfl, rfl, .nil⟩ ?_ ?_
    · intro j tj m zs s io2 hj hJ S
      refine hideQ2 ?_; intro Qc hQc
      obtain ⟨⟨m1, m2, m3, m4, m5, m6, m7, m8⟩, vs, n, tat, rfl, m9, hab⟩ := hJ
      have hr1 := hch' j (by (first | lia | omega))
      have hr0 : 0 ≤ atF sp i j ∧ atF sp i j < ln.length := by
        cases j with
        | zero => show 0 ≤ (i : Int) ∧ (i : Int) < _; (first | lia | omega)
        | succ j => exact hch' j (by (first | lia | omega))
      obtain ⟨vsp, hvsp, tsp, rfl⟩ := hsp.get (i := (atF sp i j).toNat) (b := sp.getD (atF sp i j).toNat 0) (by simp [show (atF sp i j).toNat < sp.length by (first | lia | omega)])
      refine asN ?_
      refine stL S ?_; intro s S
      refine sAsg ?_
      refine Subscript_ ?_
      refine nmL S (by exact m2) ?_
      refine nmL S (by exact m9) ?_
      refine itL (isLb S hsl) hr0.1 hvsp ?_ (by (first | lia | omega))
      refine stL S ?_; intro s S
      have hk : (atF sp i (j + 1)).toNat < ln.length := by (first | lia | omega)
      obtain ⟨v', hv', t', ta', tb', tc', rfl, hm'⟩ := hln.get (i := (atF sp i (j + 1)).toNat) (b := ln.getD (atF sp i (j + 1)).toNat default) (by simp [hk])
      refine sExp ?_
      refine meth ?_
      refine nmL S (by exact m8) ?_
      refine gmAppend (S.get (.tail _ (.head _))) ?_
      refine Subscript_ ?_
      refine Subscript_ ?_
      refine nmL S (by exact m1) ?_
      refine nmL S rfl ?_
      refine itL (isLb S hll) hr1.1 hv' ?_ (show atF sp i (j + 1) < 2 ^ 63 by (first | lia | omega))
      refine cI S ?_; intro t5 s S
      refine itT (isTb S ⟨_, hm', rfl, 0, rfl⟩) (by decide) rfl ?_ (by decide)
      have hvl : vs.length ≤ sizeLine := by rw [hab.len]; unfold abvF; simp; exact Nat.le_trans (show _ ≤ 200 by (first | lia | omega)) (by decide)
      refine apL S (.tail .head) ?_ hvl; intro s S
      refine wpAny_execs_nil (hQc _ _ ?_)
      refine (.inl ⟨rfl, _, _, S, ⟨m1, m2, m3, m4, m5, m6, m7, m8⟩, _, _, _, rfl, rfl, ?_⟩)
      unfold abvF
      rw [List.range_succ, List.map_append]
      exact hab.app (.cons ⟨_, rfl⟩ .nil)
    rintro m zs s ⟨⟨m1, m2, m3, m4, m5, m6, m7, m8⟩, vs, n, tat, rfl, m9, hab⟩ S
    generalize hAB : abvF ln sp i (it.1 - 2).toNat = AB at *
    have hvl : vs.length ≤ 100 := by rw [hab.len, ← hAB]; unfold abvF; simp; (first | lia | omega)
    refine sAsg ?_
    refine wpAny_mono (Q := fun v s' => ∃ dc oc kc, v = .ref dc ∧ (dc == sysModules) = false ∧ IsD w oc kc ∧ Fa KV kc (oneC AB) ∧ St (Bs.of s₀) L m ((dc, oc) :: (ab, lob vs n) :: (I, io) :: (d, ob) :: ys) s') ?_ ?_ (fun _ _ x => x)
    · refine IfExp_ ?_
      refine wpAny_isTrue_value ?_
      refine nmL S m8 ?_
      refine tL S (isL S (.head _)) (by (first | lia | omega)) ?_; intro s S
      cases hab with
      | nil =>
        rw [if_neg (by simp)]
        refine nwD S GL ?_; intro dc s lc S
        exact ⟨dc, dict0, [], rfl, lc, isD0 w, .nil, S⟩
      | @cons a b l k hx hr =>
        obtain ⟨tx, rfl⟩ := hx
        rw [if_pos (by simp)]
        refine nwD1 S GL ?_; intro dc s lc S
        refine Subscript_ ?_
        refine nmL S m8 ?_
        refine cI S ?_; intro t6 s S
        refine itL (isL S (.tail _ (.head _))) (by decide) rfl ?_ (by decide)
        refine cI S ?_; intro t7 s S
        refine ⟨b, tx, m, _, rfl, S, fun s' o ho S => ⟨dc, o, _, rfl, lc, ho, .cons ⟨rfl, t7, rfl⟩ .nil, S⟩⟩
    rintro _ s ⟨dc, oc, kc, rfl, lc, hoc, hkc, S⟩
    refine stL S ?_; intro s S
    refine sAsg ?_
    refine Tuple_ ?_
    refine spC ?_
    refine wpAny_mono (Q := fun v s' => ∃ t, v = .int (if AB.any (· == it.2.2) then 0 else 1) t ∧ St (Bs.of s₀) L (upd m "callers" (.ref dc)) ((dc, oc) :: (ab, lob vs n) :: (I, io) :: (d, ob) :: ys) s') ?_ ?_ (fun _ _ x => x)
    · refine IfExp_ ?_
      refine wpAny_isTrue_Compare1 ?_
      refine nmL S (by exact m7) ?_
      refine nmL S (by exact m8) ?_
      refine in_list_strs (isL S (.tail _ (.head _))) hab.strs ?_
      refine tB ?_
      by_cases hb : AB.any (· == it.2.2) = true
      · rw [if_pos hb, if_pos hb]
        refine cI S ?_; intro t8 s S
        exact ⟨t8, rfl, S⟩
      · rw [if_neg hb, if_neg hb]
        refine cI S ?_; intro t8 s S
        exact ⟨t8, rfl, S⟩
    rintro _ s ⟨t8, rfl, S⟩
    refine spC ?_
    refine cI S ?_; intro t9 s S
    refine spC ?_
    refine wpAny_BinOp ?_
    refine nmL S (by exact m6) ?_
    refine cI S ?_; intro t10 s S
    refine iSub S ?_; intro t11 s S
    refine spC ?_
    refine Subscript_ ?_
    refine nmL S (by exact m3) ?_
    refine nmL S (by exact m5) ?_
    refine itL (isLb S hql) (by (first | lia | omega)) (by simpa using hvq) ?_ (by (first | lia | omega))
    refine spC ?_
    refine nmL S rfl ?_
    refine spN ?_
    refine nwT S ?_; intro en s S
    refine stL S ?_; intro s S
    refine sSub ?_
    refine call2 (B := Bs.of s₀) (L := L) hfs ?_
    refine nmG S GL hms ?_
    refine ⟨rfl, ?_⟩
    refine meth ?_
    refine nmL S (by exact m4) ?_
    refine gmGet2 (isD S (.tail _ (.tail _ (.tail _ (.tail _ (.head _))))) hob) ?_
    refine nmL S (by exact m7) ?_
    refine Tuple_ ?_
    refine spC ?_
    refine cI S ?_; intro t12 s S
    refine spC ?_
    refine cI S ?_; intro t13 s S
    refine spC ?_
    refine cI S ?_; intro t14 s S
    refine spC ?_
    refine cI S ?_; intro t15 s S
    refine spC ?_
    refine nwD S GL ?_; intro d0 s l0 S
    refine spN ?_
    refine nwT S ?_; intro q0 s S
    refine dGet2 S (isD S (.tail _ (.tail _ (.tail _ (.tail _ (.tail _ (.tail _ (.head _))))))) hob) lo ?_; intro s S
    refine nmL S rfl ?_
    refine ⟨⟨_, _, S⟩, ?_⟩
    have hes : EnV w (On s.heap) (.ref en) (evP ln sp q i).2 := by
      rw [hev]
      exact ⟨en, t8, t9, t11, tq, dc, oc, kc, rfl, S.get (.tail _ (.tail _ (.head _))), S.get (.tail _ (.tail _ (.tail _ (.head _)))), hoc, lc, hkc⟩
    have hnm : (evP ln sp q i).1 = it.2.2 := by rw [hev]
    have hold : EnV w (On s.heap) ((valueAt kv it.2.2).getD (.ref q0)) ((vI (profF ln sp q i) it.2.2).getD zeroE) := by
      rcases hF.valueAt it.2.2 with ⟨h1, h2⟩ | ⟨x, v, h1, h2, h3⟩
      · rw [h1, h2]
        exact ⟨q0, t12, t13, t14, t15, d0, dict0, [], rfl, S.get (.head _), S.get (.tail _ (.head _)), isD0 w, l0, .nil⟩
      · rw [h1, h2]
        exact h3.mono fun a o h => S.get (.tail _ (.tail _ (.tail _ (.tail _ (.tail _ (.tail _ (.tail _ h)))))))
    have hcl : ((vI (profF ln sp q i) it.2.2).getD zeroE).cd.length ≤ 100 := by
      cases e : vI (profF ln sp q i) it.2.2 with
      | none => exact Nat.zero_le _
      | some x => obtain ⟨k', hm⟩ := vI_mem e; exact Nat.le_trans (profF_cd ln sp q i _ hm) (by (first | lia | omega))
    have hcl2 : (evP ln sp q i).2.cd.length ≤ 100 := Nat.le_trans (oneC_len _) (by decide)
    refine callC S (addfs_spec (GL.keeps S.F.keep) hm1 hm2 hma (hfa.keeps S.F.keep) (hfs.keeps S.F.keep) hA' hold hes hcl hcl2) ?_
    rintro rv zs2 s hrv S
    refine nmL S (by exact m4) ?_
    refine nmL S (by exact m7) ?_
    have hkl : kv.length ≤ sizeLine := by rw [hF.len]; exact Nat.le_trans (profF_len ln sp q i) (Nat.le_trans (show i ≤ 100 by (first | lia | omega)) (by decide))
    refine dSet S (fun o' => Up.app (.tail (.tail (.tail (.tail (.tail (.tail .head)))))) zs2) hob hkl ?_
    intro s o' ho' S
    have S := (S.skip (y' := (I, io) :: (d, o') :: ys) (.cons _ (.cons _ (.cons _ (.cons _ (.cons _ (List.Sublist.refl _))))))).front2
    refine wpAny_execs_nil (hQb _ _ ?_)
    refine (.inl ⟨rfl, _, (d, o') :: (zs2 ++ ys), S, ⟨m1, m2, m3, m4⟩, o', _, _, rfl, ho', ?_⟩)
    rw [profF_succ]
    unfold putE
    rw [hnm]
    refine (hF.mono fun a b h => ?_).stored _ ?_
    · exact ⟨h.1, h.2.mono fun a o h => List.mem_append_right _ h⟩
    · exact hrv.mono fun a o h => by simp [h]
  · rintro m zs s ⟨⟨m1, m2, m3, m4⟩, ob, kv, ys, rfl, hob, hF⟩ S
    refine sRet ?_
    refine nmL S m4 ?_
    rw [hul] at hF
    refine hQf _ _ ?_
    exact ⟨_, _, rfl, S.grows, d, ob, kv, rfl, .head _, hob, lo, hF.mono fun a b h => ⟨h.1, h.2.mono fun a o h => .tail _ h⟩⟩
end
end Mine
end
section
open PySem PySem.W PyProof.Rows PySem.Calls
set_option maxRecDepth 100000
set_option maxHeartbeats 2000000
namespace Mine
theorem pick_to (vs : List Value) (k : Nat) : (slicePick vs.toArray none (some (k : Int)) none).toList = vs.take k := by
  have e : sliceBounds none (some (k : Int)) none vs.toArray.size = (((0 : Nat) : Int), ((min k vs.toArray.size : Nat) : Int), 1) := by
    simp only [sliceBounds, Option.getD_none, show (1 : Int) > 0 by decide, if_true, if_neg (show ¬ ((k : Int) < 0) by (first | lia | omega))]
    refine Prod.ext rfl (Prod.ext ?_ rfl)
    simp only
    (first | lia | omega)
  rw [kmk_pick_nat _ e]
  show (vs.drop 0).take (min k vs.toArray.size - 0) = _
  rw [List.drop_zero, Nat.sub_zero, List.size_toArray, kmk_take_min]
/-- what one call of the run tells -/
def tStep (st : List (Str × En) × List Str) (x : (Int × Str) × Int) : List (Str × En) × List Str :=
  let path := st.2.take x.1.1.toNat
  let e := (vI st.1 x.1.2).getD zeroE
  let cd := match path.getLast? with
    | none => e.cd
    | some c => stI e.cd c ((vI e.cd c).getD 0 + 1)
  (stI st.1 x.1.2 ⟨e.cc + (if path.any (· == x.1.2) then 0 else 1), e.nc + 1, e.tt + x.1.1, e.ct + x.2, cd⟩, path ++ [x.1.2])
def toldF (ds : List (Int × Str)) (ws : List Int) (n : Nat) : List (Str × En) × List Str := ((List.range n).map fun (i : Nat) => ((ds.getD i default, ws.getD i 0) : (Int × Str) × Int)).foldl tStep ([], [])
theorem toldF_succ (ds : List (Int × Str)) (ws : List Int) (n : Nat) : toldF ds ws (n + 1) = tStep (toldF ds ws n) (ds.getD n default, ws.getD n 0) := by
  unfold toldF
  rw [List.range_succ, List.map_append, List.foldl_append]
  rfl
theorem toldF_len (ds : List (Int × Str)) (ws : List Int) : ∀ n, (toldF ds ws n).1.length ≤ n ∧ (toldF ds ws n).2.length ≤ n
  | 0 => ⟨Nat.le_refl 0, Nat.le_refl 0⟩
  | n + 1 => by
    have h := toldF_len ds ws n
    rw [toldF_succ]
    unfold tStep
    refine ⟨Nat.le_trans (stI_len _ _ _) (by (first | lia | omega)), ?_⟩
    simp only [List.length_append, List.length_take, List.length_cons, List.length_nil]
    (first | lia | omega)
theorem toldF_cd (ds : List (Int × Str)) (ws : List Int) : ∀ n, CdLe n (toldF ds ws n).1
  | 0 => fun _ h => nomatch h
  | n + 1 => by
    have h := toldF_cd ds ws n
    rw [toldF_succ]
    generalize toldF ds ws n = st at *
    intro q hq
    have h0 : ((vI st.1 (ds.getD n default).2).getD zeroE).cd.length ≤ n := by
      cases e : vI st.1 (ds.getD n default).2 with
      | none => exact Nat.zero_le _
      | some x => obtain ⟨k', hm⟩ := vI_mem e; exact h _ hm
    unfold tStep stI at hq
    simp only at hq
    split at hq
    · obtain ⟨r, hr, rfl⟩ := List.mem_map.mp hq
      split
      · simp only
        split
        · (first | lia | omega)
        · exact Nat.le_trans (stI_len _ _ _) (by (first | lia | omega))
      · exact Nat.le_succ_of_le (h r hr)
    · rcases List.mem_append.mp hq with hq | hq
      · exact Nat.le_succ_of_le (h q hq)
      · obtain rfl := List.mem_singleton.mp hq
        simp only
        split
        · (first | lia | omega)
        · exact Nat.le_trans (stI_len _ _ _) (by (first | lia | omega))
theorem vI_mem' {α : Type} {c : List (Str × α)} {k : Str} {x : α} (h : vI c k = some x) : (k, x) ∈ c := by
  unfold vI at h
  cases e : c.find? (fun kv => kv.1 = k) with
  | none => rw [e] at h; cases h
  | some p =>
    rw [e] at h
    obtain rfl := Option.some.inj h
    have hk := List.find?_some e
    simp only [decide_eq_true_eq] at hk
    rw [← hk]
    exact List.mem_of_find?_eq_some e
theorem mem_stI {α : Type} {c : List (Str × α)} {k : Str} {v : α} {p : Str × α} (h : p ∈ stI c k v) : p = (k, v) ∨ (p ∈ c ∧ p.1 ≠ k) := by
  unfold stI at h
  split at h
  · obtain ⟨r, hr, rfl⟩ := List.mem_map.mp h
    by_cases e : r.1 = k
    · rw [if_pos e]; exact .inl (by rw [e])
    · rw [if_neg e]; exact .inr ⟨hr, e⟩
  · rename_i hn
    rcases List.mem_append.mp h with h | h
    · refine .inr ⟨h, fun e => hn ?_⟩
      rw [List.any_eq_true]
      exact ⟨p, h, by simpa using e⟩
    · exact .inl (List.mem_singleton.mp h)
theorem stI_map {α β : Type} (g : α → β) (c : List (Str × α)) (k : Str) (v : α) : (stI c k v).map (fun p => (p.1, g p.2)) = stI (c.map fun p => (p.1, g p.2)) k (g v) := by
  unfold stI
  rw [List.any_map]
  show List.map _ (if c.any (fun kv => kv.1 = k) = true then _ else _) = if c.any (fun kv => kv.1 = k) = true then _ else _
  split
  · rw [List.map_map, List.map_map]
    apply List.map_congr_left
    intro p _
    simp only [Function.comp]
    split <;> rfl
  · rw [List.map_append]; rfl
theorem vI_map {α β : Type} (g : α → β) (c : List (Str × α)) (k : Str) : vI (c.map fun p => (p.1, g p.2)) k = (vI c k).map g := by
  unfold vI
  rw [List.find?_map]
  cases h : c.find? (fun kv => kv.1 = k) with
  | none =>
    rw [show (c.find? ((fun kv : Str × β => decide (kv.1 = k)) ∘ fun p => (p.1, g p.2))) = none from h]; rfl
  | some p =>
    rw [show (c.find? ((fun kv : Str × β => decide (kv.1 = k)) ∘ fun p => (p.1, g p.2))) = some p from h]; rfl
/-- an entry whose callers' dict is known -/
def EnA (w : World) (R : Addr → Obj → Prop) (v : Value) (e : En × Addr) : Prop :=
  ∃ t a b c d o kv, v = .ref t ∧ R t (tob [.int e.1.cc a, .int e.1.nc b, .int e.1.tt c, .int e.1.ct d, .ref e.2]) ∧ R e.2 o ∧ IsD w o kv ∧ (e.2 == sysModules) = false ∧ Fa KV kv e.1.cd
theorem EnA.en {w R v e} (h : EnA w R v e) : EnV w R v e.1 := let ⟨t, a, b, c, d, o, kv, r⟩ := h; ⟨t, a, b, c, d, e.2, o, kv, r⟩
theorem Fa.storedX {α : Type} {R : Value → α → Prop} {kvs : List (Str × Value)} {c : List (Str × α)} {k : Str} (h : Fa (fun p q => p.1 = q.1 ∧ (q.1 ≠ k → R p.2 q.2)) kvs c) {v : Value} {y : α} (hv : R v y) : Fa (KVr R) (PySem.stored kvs k v) (stI c k y) := by
  have ha : kvs.any (fun kv => kv.1 = k) = c.any (fun kv => kv.1 = k) := by
    induction h with
    | nil => rfl
    | cons x _ ih => simp only [List.any_cons, ih, x.1]
  unfold PySem.stored stI
  rw [ha]
  split
  · clear ha
    rename_i hh
    clear hh
    induction h with
    | nil => exact .nil
    | @cons a b l r x _ ih =>
      simp only [List.map_cons]
      refine .cons ?_ ih
      by_cases e : b.1 = k
      · rw [if_pos e, if_pos (x.1.trans e)]; exact ⟨x.1, hv⟩
      · rw [if_neg e, if_neg (by rw [x.1]; exact e)]; exact ⟨x.1, x.2 e⟩
  · rename_i hn
    refine Fa.app ?_ (.cons ⟨rfl, hv⟩ .nil)
    clear ha
    induction h with
    | nil => exact .nil
    | @cons a b l r x _ ih =>
      simp only [List.any_cons, Bool.or_eq_true, not_or, decide_eq_true_eq] at hn
      exact .cons ⟨x.1, x.2 hn.1⟩ (ih (by simpa using hn.2))
theorem Fa.imp {α β : Type} {R R' : α → β → Prop} {l k} (h : Fa R l k) (hm : ∀ a b, b ∈ k → R a b → R' a b) : Fa R' l k := by
  induction h with
  | nil => exact .nil
  | cons x _ ih => exact .cons (hm _ _ (.head _) x) (ih fun a b hb => hm a b (.tail _ hb))
theorem Up.of {a : Addr} {o : Obj} (o' : Obj) : ∀ {zs : List (Addr × Obj)}, (a, o) ∈ zs → ∃ zs', Up a o o' zs zs' ∧ ∀ p ∈ zs, p.1 ≠ a → p ∈ zs'
  | p :: zs, h => by
    by_cases e : p = (a, o)
    · subst e
      exact ⟨(a, o') :: zs, .head, fun q hq hn => by
        rcases List.mem_cons.mp hq with rfl | hq
        · exact absurd rfl hn
        · exact .tail _ hq⟩
    · rcases List.mem_cons.mp h with h | h
      · exact absurd h.symm e
      · obtain ⟨zs', U, hk⟩ := Up.of o' h
        exact ⟨p :: zs', .tail U, fun q hq hn => by
          rcases List.mem_cons.mp hq with rfl | hq
          · exact .head _
          · exact .tail _ (hk q hq hn)⟩
section
variable {w : World} {A : Around} {E : Value → Shared → Prop} {s : Shared} {B : Bs} {L : Addr} {m mg : Str → Option Value} {zs : List (Addr × Obj)} {env : Env}
/-- two lists put together -/
theorem addL {l b : Addr} {vs ws : List Value} {Q : Value → Shared → Prop} (S : St B L m zs s) (hl : s.heap.IsList l vs.toArray) (hb : s.heap.IsList b ws.toArray) (hz : vs.length + ws.length ≤ 10000)
    (h : ∀ D s', St B L m ((D, lob (vs ++ ws) 0) :: zs) s' → Q (.ref D) s') : wpAny (model prog w) A (binaryOp .Add (.ref l) (.ref b)) Q E s := by
  refine add_lists (hsz := Nat.le_trans hz (by decide)) S.F S.N hl hb fun h' F' N' => h _ _ ?_
  refine (⟨F', N', ?_, S.G, S.O⟩ : St B L m ((s.heap.objs.size, lob (vs ++ ws) 0) :: zs) { s with heap := h', toks := s.toks })
  rw [List.map_cons, List.nodup_cons]
  refine ⟨fun hm => ?_, S.nd⟩
  obtain ⟨p, hp, e⟩ := List.mem_map.mp hm
  exact S.fresh p hp e
/-- a dict anywhere in the ledger is set -/
theorem dSetM {d : Addr} {o : Obj} {kvs : List (Str × Value)} {k : Str} {t : Tok} {v : Value} {Q : Unit → Shared → Prop} (S : St B L m zs s) (hm : (d, o) ∈ zs) (hd : IsD w o kvs) (hz : kvs.length ≤ sizeLine)
    (h : ∀ s' o' zs', IsD w o' (stored kvs k v) → Up d o o' zs zs' → (∀ p ∈ zs, p.1 ≠ d → p ∈ zs') → St B L m zs' s' → Q () s') : wpAny (model prog w) A (setItem (.ref d) (.str k t) v) Q E s := by
  refine wpAny_setItem_pairs (hsz := hz) (strKind_is prog w k t) (isD S hm hd) fun h' hd' hs => ?_
  obtain ⟨o', ho', hdo⟩ := Heap.dictOf_iff.mp hd'
  obtain ⟨zs', U, hk⟩ := Up.of o' hm
  exact h _ o' zs' hdo U hk (S.upd U hs ho' _)
theorem St.inj (S : St B L m zs s) {a : Addr} {o o' : Obj} (h : (a, o) ∈ zs) (h' : (a, o') ∈ zs) : o = o' := Option.some.inj ((S.get h).symm.trans (S.get h'))
end
end Mine
end
section
open PySem PySem.W PyProof.Rows PySem.Calls
set_option maxRecDepth 100000
set_option maxHeartbeats 2000000
namespace Mine
section
variable {w : World} {A : Around} {E : Value → Shared → Prop} {s : Shared} {B : Bs} {L : Addr} {m mg : Str → Option Value} {zs : List (Addr × Obj)} {env : Env}
/-- a dict in the ledger's later part is set -/
theorem dSetP {d : Addr} {o : Obj} {kvs : List (Str × Value)} {k : Str} {t : Tok} {v : Value} {Q : Unit → Shared → Prop} {pre ys : List (Addr × Obj)} (S : St B L m (pre ++ ys) s) (hm : (d, o) ∈ ys) (hd : IsD w o kvs) (hz : kvs.length ≤ sizeLine)
    (h : ∀ s' o' ys', IsD w o' (stored kvs k v) → (d, o') ∈ ys' → (∀ p ∈ ys, p.1 ≠ d → p ∈ ys') → St B L m (pre ++ ys') s' → Q () s') : wpAny (model prog w) A (setItem (.ref d) (.str k t) v) Q E s := by
  refine wpAny_setItem_pairs (hsz := hz) (strKind_is prog w k t) (isD S (List.mem_append_right _ hm) hd) fun h' hd' hs => ?_
  obtain ⟨o', ho', hdo⟩ := Heap.dictOf_iff.mp hd'
  obtain ⟨ys', U, hk⟩ := Up.of o' hm
  exact h _ o' ys' hdo U.mem' hk (S.upd (U.app pre) hs ho' _)
end
section
variable {w : World} {A : Around} {s₀ : Shared} {mg : Str → Option Value}
theorem told_spec {f cl wl : Addr} {us wu : List Value} {ds : List (Int × Str)} {ws : List Int} (GL : Gl mg s₀.heap) (hm3 : mg "range" = none) (hm4 : mg "len" = none)
    (hfn : Fn s₀.heap f "_law_told" 22 .none .none) (hA : Rm A 1) (hcl : s₀.heap.IsList cl us.toArray) (hds : Fa (Pair (On s₀.heap)) us ds) (hwl : s₀.heap.IsList wl wu.toArray) (hws : Fa IntV wu ws)
    (e1 : ws.length = ds.length) (hlen : ds.length ≤ 90) (hd0 : ∀ x ∈ ds, 0 ≤ x.1) :
    Tells w A (.ref f) ⟨[.ref cl, .ref wl], []⟩ (fun v ys => ∃ d o kv, v = .ref d ∧ (d, o) ∈ ys ∧ IsD w o kv ∧ (d == sysModules) = false ∧ Fa (KVr (EnV w (In ys))) kv (toldF ds ws ds.length).1) s₀ := by
  have hul := hds.len
  have hwul := hws.len
  refine callDef0 [("calls", .ref cl), ("waits", .ref wl)] hfn GL.lim hA (fun _ _ _ _ _ => BindsTo.of_eq rfl) ?_
  intro A' L cd s hA' S
  refine hideQ ?_; intro Qf hQf
  have hh' := hA'.hh
  refine sAsg ?_
  refine nwD S GL ?_; intro td s lo S
  refine stL S ?_; intro s S
  refine sAsg ?_
  refine List_ ?_
  refine spN ?_
  refine nwL S ?_; intro pl s S
  refine stL S ?_; intro s S
  replace S := S.down1
  refine sFor ?_
  refine cT1 (id := "range") ?_
  refine nmB S GL hm3 (by rfl) ?_
  refine ⟨rfl, ?_⟩
  refine cB1 (id := "len") ?_
  refine nmB S GL hm4 (by rfl) ?_
  refine ⟨rfl, ?_⟩
  refine nmL S rfl ?_
  refine lenL S (isLb S hcl) (by (first | lia | omega)) ?_; intro t1 s S
  refine rng1 S ?_; intro r u v s S
  refine rngIt (k := us.length) S (by (first | lia | omega)) (by (first | lia | omega)) (by (first | lia | omega)) (by (first | lia | omega)) (by (first | lia | omega)) ?_; intro I s S
  refine forR hh' S rfl (fun i m zs => (m "calls" = some (.ref cl) ∧ m "waits" = some (.ref wl) ∧ m "told" = some (.ref td)) ∧ ∃ pl ot kv ps n ys bkA, m "path" = some (.ref pl) ∧ zs = (td, ot) :: (pl, lob ps n) :: ys ∧ IsD w ot kv ∧ Fa (KVr (EnA w (In ys))) kv bkA ∧
      bkA.map (fun p => (p.1, p.2.1)) = (toldF ds ws i).1 ∧ (∀ p ∈ bkA, ∀ q ∈ bkA, p.1 ≠ q.1 → p.2.2 ≠ q.2.2) ∧ Fa StrV ps (toldF ds ws i).2)
    ⟨⟨rfl, rfl, rfl⟩, pl, dict0, [], [], 0, [], [], rfl, rfl, isD0 w, .nil, rfl, (fun _ h => nomatch h), .nil⟩ ?_ ?_
  · intro i tk m zs s io hlt hJ S
    refine hideQ2 ?_; intro Qb hQb
    obtain ⟨⟨m1, m2, m3⟩, pl, ot, kv, ps, n, ys, bkA, m4, rfl, hot, hF, hbk, hdis, hps⟩ := hJ
    rw [Int.zero_add]
    have hi : i < ds.length := by (first | lia | omega)
    obtain ⟨v, hv, t, ta, tb, rfl, hm⟩ := hds.get (i := i) (b := ds[i]) (by simp [hi])
    obtain ⟨vq, hvq, tq, rfl⟩ := hws.get (i := i) (b := ws.getD i 0) (by simp [show i < ws.length by (first | lia | omega)])
    have hd0i := hd0 ds[i] (List.getElem_mem hi)
    have hstep : toldF ds ws (i + 1) = tStep (toldF ds ws i) (ds[i], ws.getD i 0) := by rw [toldF_succ]; simp [hi]
    have hL := toldF_len ds ws i
    have hC := toldF_cd ds ws i
    generalize ds[i] = it at *
    generalize ws.getD i 0 = wt at *
    generalize toldF ds ws i = st at *
    have hpl := hps.len
    refine asN ?_
    refine stL S ?_; intro s S
    refine sTup ?_
    refine Subscript_ ?_
    refine nmL S (by exact m1) ?_
    refine nmL S rfl ?_
    refine itL (isLb S hcl) (by (first | lia | omega)) (by simpa using hv) ?_ (by (first | lia | omega))
    refine unT S hh' (isTb S ⟨_, hm, rfl, 0, rfl⟩) rfl rfl ?_; intro s S
    refine aio ?_
    refine stL S ?_; intro s S
    refine aio ?_
    refine stL S ?_; intro s S
    refine aio0 ?_
    refine sAsg ?_
    refine Subscript_ ?_
    refine nmL S (by exact m4) ?_
    refine wpAny_Slice ?_
    refine wpAny_evalPart_none ?_
    refine wpAny_evalPart_some ?_
    refine nmL S rfl ?_
    refine wpAny_evalPart_none ?_
    refine slL S (isL S (.tail _ (.tail _ (.head _)))) .none (.int _ _) .none (by decide) (by rw [hpl]; exact Nat.le_trans (show _ ≤ 100 by (first | lia | omega)) (by decide)) ?_
    intro p2 s S
    rw [show it.1 = ((it.1.toNat : Nat) : Int) by (first | lia | omega), pick_to, ← show it.1 = ((it.1.toNat : Nat) : Int) by (first | lia | omega)] at S
    have hps' := hps.take it.1.toNat
    generalize hP : st.2.take it.1.toNat = P at *
    have hPl : P.length ≤ 100 := by rw [← hP]; simp; (first | lia | omega)
    generalize ps.take it.1.toNat = ps2 at *
    have hps2l := hps'.len
    refine stL S ?_; intro s S
    refine sTup ?_
    refine meth ?_
    refine nmL S (by exact m3) ?_
    refine gmGet2 (isD S (.tail _ (.tail _ (.head _))) hot) ?_
    refine nmL S rfl ?_
    refine Tuple_ ?_
    refine spC ?_
    refine cI S ?_; intro t12 s S
    refine spC ?_
    refine cI S ?_; intro t13 s S
    refine spC ?_
    refine cI S ?_; intro t14 s S
    refine spC ?_
    refine cI S ?_; intro t15 s S
    refine spC ?_
    refine nwD S GL ?_; intro d0 s l0 S
    refine spN ?_
    refine nwT S ?_; intro q0 s S
    refine dGet2 S (isD S (.tail _ (.tail _ (.tail _ (.tail _ (.head _))))) hot) lo ?_; intro s S
    have hnd := S.nd
    replace S := S.sub (zs' := (q0, _) :: (d0, dict0) :: (p2, lob ps2 0) :: (I, io) :: (td, ot) :: ys) (.cons_cons _ (.cons_cons _ (.cons_cons _ (.cons_cons _ (.cons_cons _ (.cons _ (List.Sublist.refl _)))))))
    replace S := S.front3 (x := [(q0, _), (d0, dict0)])
    simp only [List.cons_append, List.nil_append] at S
    have hd0n : ∀ p ∈ ys, p.1 ≠ d0 := by
      intro p hp e
      simp only [List.map_cons, List.nodup_cons] at hnd
      refine hnd.2.1 ?_
      rw [← e]
      simp only [List.mem_cons]
      exact .inr (.inr (.inr (.inr (List.mem_map.mpr ⟨p, hp, rfl⟩))))
    generalize hys2 : ((q0, tob [.int 0 t12, .int 0 t13, .int 0 t14, .int 0 t15, .ref d0]) :: (d0, dict0) :: ys) = ys2 at S
    have hin : ∀ p ∈ ys, p ∈ ys2 := fun p hp => by rw [← hys2]; exact .tail _ (.tail _ hp)
    have hold : ∃ dd, EnA w (In ys2) ((valueAt kv it.2).getD (.ref q0)) (((vI st.1 it.2).getD zeroE), dd) ∧ ∀ p ∈ bkA, p.1 ≠ it.2 → p.2.2 ≠ dd := by
      rcases hF.valueAt it.2 with ⟨h1, h2⟩ | ⟨x, v, h1, h2, h3⟩
      · have : vI st.1 it.2 = none := by rw [← hbk, vI_map, h1]; rfl
        rw [this, h2]
        refine ⟨d0, ⟨q0, t12, t13, t14, t15, dict0, [], rfl, by rw [← hys2]; exact .head _, by rw [← hys2]; exact .tail _ (.head _), isD0 w, l0, .nil⟩, fun p hp _ => ?_⟩
        obtain ⟨_, _, _, kv0, hkv0⟩ : ∃ a b c d, True ∧ (p.2.2, d) ∈ ys := by
          have : ∀ {kv : List (Str × Value)} {bk}, Fa (KVr (EnA w (In ys))) kv bk → p ∈ bk → ∃ o, (p.2.2, o) ∈ ys := by
            intro kv bk h
            induction h with
            | nil => intro h; cases h
            | cons x _ ih =>
              intro hp
              rcases List.mem_cons.mp hp with rfl | hp
              · obtain ⟨_, _, _, _, _, _, o, _, _, _, h, _⟩ := x
                exact ⟨o, h⟩
              · exact ih hp
          obtain ⟨o, ho⟩ := this hF hp
          exact ⟨0, 0, 0, o, trivial, ho⟩
        exact hd0n _ hkv0.2
      · have : vI st.1 it.2 = some x.1 := by rw [← hbk, vI_map, h1]; rfl
        rw [this, h2]
        obtain ⟨t, a, b, c, d, o, kv, g1, g2, g3, r⟩ := h3
        exact ⟨x.2, ⟨t, a, b, c, d, o, kv, g1, hin _ g2, hin _ g3, r⟩, fun p hp hne => hdis p hp _ (vI_mem' h1) hne⟩
    obtain ⟨dd, ⟨te, a, b, c, d, odd, kc, hve, hte, hdd, hodd, ldd, hkc⟩, hdiff⟩ := hold
    have htd : ∀ t vs, (t, tob vs) ∈ ys2 → t ≠ dd := by
      intro t vs h e
      subst e
      have := S.inj (.tail _ (.tail _ (.tail _ h))) (.tail _ (.tail _ (.tail _ hdd)))
      rw [← this] at hodd
      obtain ⟨_, _, ⟨hc, _⟩, _⟩ := hodd
      exact absurd hc (by simp)
    rw [hve]
    have hel : ((vI st.1 it.2).getD zeroE).cd.length ≤ 100 := by
      cases e : vI st.1 it.2 with
      | none => exact Nat.zero_le _
      | some x => obtain ⟨k', hm⟩ := vI_mem e; exact Nat.le_trans (hC _ hm) (by (first | lia | omega))
    generalize hE : (vI st.1 it.2).getD zeroE = en at *
    simp only at hte hdd ldd hkc
    refine unT S hh' (isT S (.tail _ (.tail _ (.tail _ hte)))) rfl rfl ?_; intro s S
    refine aio ?_
    refine stL S ?_; intro s S
    refine aio ?_
    refine stL S ?_; intro s S
    refine aio ?_
    refine stL S ?_; intro s S
    refine aio ?_
    refine stL S ?_; intro s S
    refine aio ?_
    refine stL S ?_; intro s S
    refine aio0 ?_
    have g : ∃ mm : Str → Option Value, (mm "path" = some (.ref p2) ∧ mm "callers" = some (.ref dd) ∧ mm "name" = some (.str it.2 tb) ∧ mm "deep" = some (.int it.1 ta) ∧ mm "cc" = some (.int en.cc a) ∧ mm "nc" = some (.int en.nc b) ∧ mm "tt" = some (.int en.tt c) ∧ mm "ct" = some (.int en.ct d) ∧
        mm "place" = some (.int i tk) ∧ mm "waits" = some (.ref wl) ∧ mm "told" = some (.ref td) ∧ mm "calls" = some (.ref cl)) ∧ St (Bs.of s₀) L mm ((p2, lob ps2 0) :: (I, io) :: (td, ot) :: ys2) s := ⟨_, ⟨rfl, rfl, rfl, rfl, rfl, rfl, rfl, rfl, rfl, by exact m2, by exact m3, by exact m1⟩, S⟩
    clear S
    obtain ⟨mm, ⟨n1, n2, n3, n4, n5, n6, n7, n8, n9, n10, n11, n12⟩, S⟩ := g
    refine sIfJ (fun s' => ∃ o' kv' ys', St (Bs.of s₀) L mm ((p2, lob ps2 0) :: (I, io) :: (td, ot) :: ys') s' ∧ (dd, o') ∈ ys' ∧ IsD w o' kv' ∧ Fa KV kv' (match P.getLast? with | none => en.cd | some c => stI en.cd c ((vI en.cd c).getD 0 + 1)) ∧ (∀ p ∈ ys2, p.1 ≠ dd → p ∈ ys')) ?_ ?_
    · refine hideQ ?_; intro Qi hQi
      refine wpAny_isTrue_value ?_
      refine nmL S (by exact n1) ?_
      refine tL S (isL S (.head _)) (by (first | lia | omega)) ?_; intro s S
      refine hQi _ _ ?_
      cases hps' with
      | nil =>
        rw [if_neg (by simp)]
        exact wpAny_execs_nil ⟨rfl, odd, kc, ys2, S, hdd, hodd, hkc, fun _ h _ => h⟩
      | @cons pv px pvs pxs hx hr =>
        rw [if_pos (by simp)]
        have hps' : Fa StrV (pv :: pvs) (px :: pxs) := .cons hx hr
        obtain ⟨lv, hlv, tl, rfl⟩ := hps'.last Str.empty (by simp)
        have hlast : (px :: pxs).getLast? = some ((px :: pxs).getLastD Str.empty) := by
          rw [List.getLastD_eq_getLast?]
          cases e : (px :: pxs).getLast? with
          | none => rw [List.getLast?_eq_none_iff] at e; cases e
          | some x => rfl
        rw [hlast]
        generalize (px :: pxs).getLastD Str.empty = c0 at *
        simp only
        refine hideQ ?_; intro Qj hQj
        refine sSub ?_
        refine wpAny_BinOp ?_
        refine meth ?_
        refine nmL S (by exact n2) ?_
        refine gmGet2 (isD S (.tail _ (.tail _ (.tail _ hdd))) hodd) ?_
        refine Subscript_ ?_
        refine nmL S (by exact n1) ?_
        refine wpAny_UnaryOp ?_
        refine cI S ?_; intro t20 s S
        refine iNeg S ?_; intro t21 s S
        refine itLast (isL S (.head _)) hlv ?_
        refine cI S ?_; intro t22 s S
        refine dGet2 S (isD S (.tail _ (.tail _ (.tail _ hdd))) hodd) ldd ?_; intro s S
        have hval : ∃ t, (valueAt kc c0).getD (.int 0 t22) = .int ((vI en.cd c0).getD 0) t := by
          rcases hkc.valueAt c0 with ⟨h1, h2⟩ | ⟨x, v, h1, h2, t, rfl⟩
          · rw [h1, h2]; exact ⟨_, rfl⟩
          · rw [h1, h2]; exact ⟨_, rfl⟩
        obtain ⟨t23, hval⟩ := hval
        rw [hval]
        refine cI S ?_; intro t24 s S
        refine iAdd S ?_; intro t25 s S
        refine nmL S (by exact n2) ?_
        refine Subscript_ ?_
        refine nmL S (by exact n1) ?_
        refine wpAny_UnaryOp ?_
        refine cI S ?_; intro t26 s S
        refine iNeg S ?_; intro t27 s S
        refine itLast (isL S (.head _)) hlv ?_
        refine dSetP (pre := [_, _, _]) S hdd hodd (by rw [hkc.len]; exact Nat.le_trans hel (by decide)) ?_
        intro s o' ys' ho' hm' hk' S
        exact wpAny_execs_nil (hQj _ _ ⟨rfl, o', _, ys', S, hm', ho', hkc.stored _ ⟨_, rfl⟩, hk'⟩)
    rintro s ⟨o', kv', ys', S, hdd', ho', hkv', hk'⟩
    refine sSub ?_
    refine Tuple_ ?_
    refine spC ?_
    refine wpAny_BinOp ?_
    refine nmL S (by exact n5) ?_
    refine wpAny_mono (Q := fun v s' => ∃ t, v = .int (if P.any (· == it.2) then 0 else 1) t ∧ St (Bs.of s₀) L mm ((p2, lob ps2 0) :: (I, io) :: (td, ot) :: ys') s') ?_ ?_ (fun _ _ x => x)
    · refine IfExp_ ?_
      refine wpAny_isTrue_Compare1 ?_
      refine nmL S (by exact n3) ?_
      refine nmL S (by exact n1) ?_
      refine in_list_strs (isL S (.head _)) hps'.strs ?_
      refine tB ?_
      by_cases hb : P.any (· == it.2) = true
      · rw [if_pos hb, if_pos hb]
        refine cI S ?_; intro t8 s S
        exact ⟨t8, rfl, S⟩
      · rw [if_neg hb, if_neg hb]
        refine cI S ?_; intro t8 s S
        exact ⟨t8, rfl, S⟩
    rintro _ s ⟨t8, rfl, S⟩
    refine iAdd S ?_; intro t30 s S
    refine spC ?_
    refine wpAny_BinOp ?_
    refine nmL S (by exact n6) ?_
    refine cI S ?_; intro t31 s S
    refine iAdd S ?_; intro t32 s S
    refine spC ?_
    refine wpAny_BinOp ?_
    refine nmL S (by exact n7) ?_
    refine nmL S (by exact n4) ?_
    refine iAdd S ?_; intro t33 s S
    refine spC ?_
    refine wpAny_BinOp ?_
    refine nmL S (by exact n8) ?_
    refine Subscript_ ?_
    refine nmL S (by exact n10) ?_
    refine nmL S (by exact n9) ?_
    refine itL (isLb S hwl) (by (first | lia | omega)) (by simpa using hvq) ?_ (by (first | lia | omega))
    refine iAdd S ?_; intro t34 s S
    refine spC ?_
    refine nmL S (by exact n2) ?_
    refine spN ?_
    refine nwT S ?_; intro nt s S
    refine nmL S (by exact n11) ?_
    refine nmL S (by exact n3) ?_
    have hkl : kv.length ≤ sizeLine := by rw [hF.len, ← List.length_map (as := bkA) (fun p => (p.1, p.2.1)), hbk]; exact Nat.le_trans (show _ ≤ 100 by (first | lia | omega)) (by decide)
    refine dSet S (fun o' => .tail (.tail (.tail .head))) hot hkl ?_
    intro s ot' hot' S
    refine sAsg ?_
    refine wpAny_BinOp ?_
    refine nmL S (by exact n1) ?_
    refine List_ ?_
    refine spC ?_
    refine nmL S (by exact n3) ?_
    refine spN ?_
    refine nwL S ?_; intro D1 s S
    refine addL S (isL S (.tail _ (.tail _ (.head _)))) (isL S (.head _)) (by simp; (first | lia | omega)) ?_; intro D2 s S
    refine stL S ?_; intro s S
    replace S := S.sub (zs' := (D2, _) :: (nt, _) :: (I, io) :: (td, ot') :: ys') (.cons_cons _ (.cons _ (.cons_cons _ (.cons _ (List.Sublist.refl _)))))
    replace S := S.front2 (x := [(D2, _), (nt, _)])
    simp only [List.cons_append, List.nil_append] at S
    refine wpAny_execs_nil (hQb _ _ ?_)
    refine (.inl ⟨rfl, _, _, S, ⟨n12, n10, n11⟩, D2, ot', _, _, _, _, stI bkA it.2 (⟨en.cc + (if P.any (· == it.2) then 0 else 1), en.nc + 1, en.tt + it.1, en.ct + wt, match P.getLast? with | none => en.cd | some c => stI en.cd c ((vI en.cd c).getD 0 + 1)⟩, dd), rfl, rfl, hot', ?_, ?_, ?_, ?_⟩)
    · refine Fa.storedX (R := EnA w (In ((nt, _) :: ys'))) (hF.imp fun p q hq h => ⟨h.1, fun hne => ?_⟩) ?_
      · obtain ⟨t, a, b, c, d, o, kv, g1, g2, g3, g4, r⟩ := h.2
        have hne2 := hdiff q hq hne
        refine ⟨t, a, b, c, d, o, kv, g1, .tail _ (hk' _ (hin _ g2) fun e => ?_), .tail _ (hk' _ (hin _ g3) hne2), g4, r⟩
        exact htd _ _ (hin _ g2) e
      · exact ⟨nt, t30, t32, t33, t34, o', kv', rfl, .head _, .tail _ hdd', ho', ldd, hkv'⟩
    · rw [stI_map, hbk, hstep]
      unfold tStep
      simp only
      rw [hP, hE]
      first | done | (cases P.getLast? <;> rfl)
    · intro p hp q hq hne
      rcases mem_stI hp with rfl | ⟨hp, hpk⟩
      · rcases mem_stI hq with rfl | ⟨hq, hqk⟩
        · exact absurd rfl hne
        · exact Ne.symm (hdiff q hq hqk)
      · rcases mem_stI hq with rfl | ⟨hq, hqk⟩
        · exact hdiff p hp hpk
        · exact hdis p hp q hq hne
    · rw [hstep]
      unfold tStep
      simp only
      rw [hP]
      exact hps'.app (.cons ⟨_, rfl⟩ .nil)
  · rintro m zs s ⟨⟨m1, m2, m3⟩, pl, ot, kv, ps, n, ys, bkA, m4, rfl, hot, hF, hbk, hdis, hps⟩ S
    refine sRet ?_
    refine nmL S m3 ?_
    rw [hul] at hbk
    refine hQf _ _ ?_
    refine ⟨_, _, rfl, S.grows, td, ot, kv, rfl, .head _, hot, lo, ?_⟩
    rw [← hbk]
    have : ∀ {kv : List (Str × Value)} {bk : List (Str × (En × Addr))}, Fa (KVr (EnA w (In ys))) kv bk → Fa (KVr (EnV w (In ((td, ot) :: (pl, lob ps n) :: ys)))) kv (bk.map fun p => (p.1, p.2.1)) := by
      intro kv bk h
      induction h with
      | nil => exact .nil
      | cons x _ ih => exact .cons ⟨x.1, x.2.en.mono fun a o h => .tail _ (.tail _ h)⟩ ih
    exact this hF
end
end Mine
end
section
open PySem PySem.W PyProof.Rows PySem.Calls
set_option maxRecDepth 100000
set_option maxHeartbeats 2000000
namespace Mine
open PySem.Sre
theorem st_lit {m : M} {c : Nat} (ho : m.outcome = none) (ha : m.answer = none) (hpc : m.pc < m.code.size) (hw : m.code.getD m.pc 0 = 16) (hc : m.code.getD (m.pc + 1) 0 = c) (hp : m.pos < m.lim) (ht : m.text.getD m.pos 0 = c) :
    m.step = { m with seen := m.seen.add 16, pc := m.pc + 2, pos := m.pos + 1 } := by
  have e1 : accepts m.code m.pc (m.text.getD m.pos 0) (m.seen.add 16) = .ok (true, m.seen.add 16) := by
    unfold accepts
    rw [hw]
    show Except.ok (m.text.getD m.pos 0 == m.code.getD (m.pc + 1) 0, m.seen.add 16) = _
    rw [hc, ht]
    simp
  have e2 : itemWidth m.code m.pc = 2 := by
    unfold itemWidth
    rw [hw]
    rfl
  obtain ⟨code, text, lim, start, lastStart, wholeText, mustAdvance, pc, pos, handed, outermost, marks, lastmark, lastindex, loops, inner, frames, weight, answer, seen, outcome⟩ := m
  dsimp only at *
  subst ho ha
  unfold M.step
  simp only [Option.isSome_none, Bool.false_eq_true, if_false, if_pos hpc]
  unfold M.exec M.word
  dsimp only [Nat.add_zero]
  rw [hw]
  show (if pos ≥ lim then _ else match accepts code pc (text.getD pos 0) (seen.add 16) with | .error why => _ | .ok (false, seen) => _ | .ok (true, seen) => _) = _
  rw [if_neg (by (first | lia | omega)), e1]
  dsimp only
  rw [e2]
theorem st_litno {m : M} {c : Nat} (ho : m.outcome = none) (ha : m.answer = none) (hpc : m.pc < m.code.size) (hw : m.code.getD m.pc 0 = 16) (hc : m.code.getD (m.pc + 1) 0 = c) (hp : m.lim ≤ m.pos ∨ m.text.getD m.pos 0 ≠ c) :
    m.step = { m with seen := m.seen.add 16, answer := some false } := by
  obtain ⟨code, text, lim, start, lastStart, wholeText, mustAdvance, pc, pos, handed, outermost, marks, lastmark, lastindex, loops, inner, frames, weight, answer, seen, outcome⟩ := m
  dsimp only at *
  subst ho ha
  unfold M.step
  simp only [Option.isSome_none, Bool.false_eq_true, if_false, if_pos hpc]
  unfold M.exec M.word
  dsimp only [Nat.add_zero]
  rw [hw]
  show (if pos ≥ lim then _ else match accepts code pc (text.getD pos 0) (seen.add 16) with | .error why => _ | .ok (false, seen) => _ | .ok (true, seen) => _) = _
  by_cases h : lim ≤ pos
  · rw [if_pos h]; rfl
  rw [if_neg (by (first | lia | omega))]
  have e1 : accepts code pc (text.getD pos 0) (seen.add 16) = .ok (false, seen.add 16) := by
    unfold accepts
    rw [hw]
    show Except.ok (text.getD pos 0 == code.getD (pc + 1) 0, seen.add 16) = _
    rw [hc, beq_eq_false_iff_ne.mpr (hp.resolve_left h)]
  rw [e1]
  rfl
theorem st_jump {m : M} (ho : m.outcome = none) (ha : m.answer = none) (hpc : m.pc < m.code.size) (hw : m.code.getD m.pc 0 = 15) :
    m.step = { m with seen := m.seen.add 15, pc := m.pc + 1 + m.code.getD (m.pc + 1) 0 } := by
  obtain ⟨code, text, lim, start, lastStart, wholeText, mustAdvance, pc, pos, handed, outermost, marks, lastmark, lastindex, loops, inner, frames, weight, answer, seen, outcome⟩ := m
  dsimp only at *
  subst ho ha
  unfold M.step
  simp only [Option.isSome_none, Bool.false_eq_true, if_false, if_pos hpc]
  unfold M.exec M.word
  dsimp only [Nat.add_zero]
  rw [hw]
  rfl
theorem st_succ {m : M} (ho : m.outcome = none) (ha : m.answer = none) (hpc : m.pc < m.code.size) (hw : m.code.getD m.pc 0 = 1) (h1 : m.wholeText = false) (h2 : m.mustAdvance = false) :
    m.step = { m with seen := m.seen.add 1, handed := m.pos, answer := some true } := by
  obtain ⟨code, text, lim, start, lastStart, wholeText, mustAdvance, pc, pos, handed, outermost, marks, lastmark, lastindex, loops, inner, frames, weight, answer, seen, outcome⟩ := m
  dsimp only at *
  subst ho ha h1 h2
  unfold M.step
  simp only [Option.isSome_none, Bool.false_eq_true, if_false, if_pos hpc]
  unfold M.exec M.word
  dsimp only [Nat.add_zero]
  rw [hw]
  show (if outermost && ((false && pos != lim) || (false && pos == start)) then _ else _) = _
  simp only [Bool.false_and, Bool.or_self, Bool.and_false, Bool.false_eq_true, if_false]
  rfl
theorem st_at {m : M} (ho : m.outcome = none) (ha : m.answer = none) (hpc : m.pc < m.code.size) (hw : m.code.getD m.pc 0 = 6) (hc : m.code.getD (m.pc + 1) 0 = 1) {b : Bool} (hb : (m.pos == 0 || m.text.getD (m.pos - 1) 0 == 10) = b) :
    m.step = if b then { m with seen := (m.seen.add 6).add 44, pc := m.pc + 2 } else { m with seen := (m.seen.add 6).add 44, answer := some false } := by
  obtain ⟨code, text, lim, start, lastStart, wholeText, mustAdvance, pc, pos, handed, outermost, marks, lastmark, lastindex, loops, inner, frames, weight, answer, seen, outcome⟩ := m
  dsimp only at *
  subst ho ha hb
  unfold M.step
  simp only [Option.isSome_none, Bool.false_eq_true, if_false, if_pos hpc]
  unfold M.exec M.word
  dsimp only [Nat.add_zero]
  rw [hw]
  show (match M.isAt _ (code.getD (pc + 1) 0) with | .error why => _ | .ok yes => _) = _
  rw [hc]
  rfl
theorem st_branch {m : M} (ho : m.outcome = none) (ha : m.answer = none) (hpc : m.pc < m.code.size) (hw : m.code.getD m.pc 0 = 7) (hi : m.inner = none) (hl1 : m.lastmark = -1) (hl2 : m.lastindex = -1) (hw2 : m.code.getD (m.pc + 1) 0 ≠ 0) (hwt : m.weight + 1 ≤ 16777216) :
    m.step = { m with seen := m.seen.add 7, frames := { wait := .nextBranch, pc := m.pc + 1, pos := m.pos, outermost := m.outermost } :: m.frames, weight := m.weight + 1, pc := m.pc + 2, handed := m.pos } := by
  obtain ⟨code, text, lim, start, lastStart, wholeText, mustAdvance, pc, pos, handed, outermost, marks, lastmark, lastindex, loops, inner, frames, weight, answer, seen, outcome⟩ := m
  dsimp only at *
  subst ho ha hi hl1 hl2
  unfold M.step
  simp only [Option.isSome_none, Bool.false_eq_true, if_false, if_pos hpc]
  unfold M.exec M.word
  dsimp only [Nat.add_zero]
  rw [hw]
  show M.alternative _ _ _ = _
  unfold M.alternative
  dsimp only
  rw [beq_eq_false_iff_ne.mpr hw2]
  show M.attempt _ _ _ _ _ = _
  unfold M.attempt
  rw [if_neg (by show ¬ (weight + 1 + 0 > 16777216); (first | lia | omega))]
  rfl
/-- the look ahead -/
theorem st_look {m : M} (ho : m.outcome = none) (ha : m.answer = none) (hpc : m.pc < m.code.size) (hw : m.code.getD m.pc 0 = 5) (hi : m.inner = none) (hl1 : m.lastmark = -1) (hl2 : m.lastindex = -1) (hw2 : m.code.getD (m.pc + 2) 0 = 0) (hwt : m.weight + 1 ≤ 16777216) :
    m.step = { m with seen := m.seen.add 5, frames := { wait := .lookNot, pc := m.pc, pos := m.pos, outermost := m.outermost } :: m.frames, weight := m.weight + 1, pc := m.pc + 3, handed := m.pos, outermost := false } := by
  obtain ⟨code, text, lim, start, lastStart, wholeText, mustAdvance, pc, pos, handed, outermost, marks, lastmark, lastindex, loops, inner, frames, weight, answer, seen, outcome⟩ := m
  dsimp only at *
  subst ho ha hi hl1 hl2
  unfold M.step
  simp only [Option.isSome_none, Bool.false_eq_true, if_false, if_pos hpc]
  unfold M.exec M.word
  dsimp only [Nat.add_zero]
  rw [hw]
  show (if pos < code.getD (pc + 2) 0 then _ else M.attempt _ _ _ (pos - code.getD (pc + 2) 0) _) = _
  rw [hw2, if_neg (by (first | lia | omega))]
  unfold M.attempt
  rw [if_neg (by show ¬ (weight + 1 + 0 > 16777216); (first | lia | omega))]
  rfl
theorem rs_look {m : M} {pc0 pos0 : Nat} {ob : Bool} {rest : List Sre.Frame} (ho : m.outcome = none) (ha : m.answer = some false) (hf : m.frames = { wait := .lookNot, pc := pc0, pos := pos0, outermost := ob } :: rest) :
    m.step = { m with answer := none, frames := rest, weight := m.weight - 1, pc := pc0 + 1 + m.code.getD (pc0 + 1) 0, pos := pos0, outermost := ob, lastmark := -1, lastindex := -1 } := by
  obtain ⟨code, text, lim, start, lastStart, wholeText, mustAdvance, pc, pos, handed, outermost, marks, lastmark, lastindex, loops, inner, frames, weight, answer, seen, outcome⟩ := m
  dsimp only at *
  subst ho ha hf
  rfl
theorem rs_branchNo {m : M} {pc0 pos0 : Nat} {ob : Bool} {rest : List Sre.Frame} (ho : m.outcome = none) (ha : m.answer = some false) (hf : m.frames = { wait := .nextBranch, pc := pc0, pos := pos0, outermost := ob } :: rest)
    (hw2 : m.code.getD (pc0 + m.code.getD pc0 0) 0 ≠ 0) (hwt : m.weight + 1 ≤ 16777216) :
    m.step = { m with answer := none, frames := { wait := .nextBranch, pc := pc0 + m.code.getD pc0 0, pos := pos0, outermost := ob } :: rest, weight := m.weight - 1 + 1, pc := pc0 + m.code.getD pc0 0 + 1, pos := pos0, handed := pos0, outermost := ob, lastmark := -1, lastindex := -1 } := by
  obtain ⟨code, text, lim, start, lastStart, wholeText, mustAdvance, pc, pos, handed, outermost, marks, lastmark, lastindex, loops, inner, frames, weight, answer, seen, outcome⟩ := m
  dsimp only at *
  subst ho ha hf
  show M.alternative _ _ _ = _
  unfold M.alternative
  show (if (code.getD (pc0 + code.getD pc0 0) 0 == 0) = true then _ else _) = _
  rw [beq_eq_false_iff_ne.mpr hw2]
  show M.attempt _ _ _ _ _ = _
  unfold M.attempt
  rw [if_neg (by show ¬ (weight - 1 + 1 + 0 > 16777216); (first | lia | omega))]
  rfl
theorem rs_yes {m : M} {f : Sre.Frame} {rest : List Sre.Frame} (ho : m.outcome = none) (ha : m.answer = some true) (hf : m.frames = f :: rest) (hw : f.wait = .nextBranch ∨ f.wait = .nextStart) :
    m.step = { m with frames := rest, weight := m.weight - (1 + f.kept.marks.size), pc := f.pc, pos := f.pos, outermost := f.outermost } := by
  obtain ⟨code, text, lim, start, lastStart, wholeText, mustAdvance, pc, pos, handed, outermost, marks, lastmark, lastindex, loops, inner, frames, weight, answer, seen, outcome⟩ := m
  obtain ⟨wait, fpc, fpos, fo, fc, fk, fl, fb⟩ := f
  dsimp only at *
  subst ho ha hf
  rcases hw with rfl | rfl <;> rfl
theorem rs_end {m : M} {b : Bool} (ho : m.outcome = none) (ha : m.answer = some b) (hf : m.frames = []) :
    m.step = { m with outcome := some (if b then .matched else .failed) } := by
  obtain ⟨code, text, lim, start, lastStart, wholeText, mustAdvance, pc, pos, handed, outermost, marks, lastmark, lastindex, loops, inner, frames, weight, answer, seen, outcome⟩ := m
  dsimp only at *
  subst ho ha hf
  rfl
theorem rs_startNo {m : M} {f : Sre.Frame} {rest : List Sre.Frame} (ho : m.outcome = none) (ha : m.answer = some false) (hf : m.frames = f :: rest) (hw : f.wait = .nextStart) :
    m.step = if f.pos < m.lastStart then M.attemptFrom { m with answer := none, frames := rest, weight := m.weight - (1 + f.kept.marks.size), pc := f.pc, pos := f.pos, outermost := f.outermost, mustAdvance := false } (f.pos + 1) false
      else { m with frames := rest, weight := m.weight - (1 + f.kept.marks.size), pc := f.pc, pos := f.pos, outermost := f.outermost } := by
  obtain ⟨code, text, lim, start, lastStart, wholeText, mustAdvance, pc, pos, handed, outermost, marks, lastmark, lastindex, loops, inner, frames, weight, answer, seen, outcome⟩ := m
  obtain ⟨wait, fpc, fpos, fo, fc, fk, fl, fb⟩ := f
  dsimp only at *
  subst ho ha hf hw
  rfl
theorem runFor_add : ∀ (a b : Nat) (m : M), M.runFor (a + b) m = M.runFor b (M.runFor a m)
  | 0, b, m => by rw [Nat.zero_add]; rfl
  | a + 1, b, m => by
    rw [show a + 1 + b = (a + b) + 1 by (first | lia | omega)]
    show (if m.outcome.isSome then m else M.runFor (a + b) m.step) = M.runFor b (if m.outcome.isSome then m else M.runFor a m.step)
    by_cases h : m.outcome.isSome = true
    · rw [if_pos h, if_pos h]
      cases b with
      | zero => rfl
      | succ b => show _ = (if m.outcome.isSome then m else _); rw [if_pos h]
    · rw [if_neg h, if_neg h]; exact runFor_add a b m.step
theorem runFor_some : ∀ (n : Nat) {m : M}, m.outcome.isSome = true → M.runFor n m = m
  | 0, _, _ => rfl
  | n + 1, m, h => by show (if m.outcome.isSome then m else _) = m; rw [if_pos h]
/-- from m to m' in n steps -/
def Go (n : Nat) (m m' : M) : Prop := M.runFor n m = m'
theorem Go.refl (m : M) : Go 0 m m := rfl
theorem Go.one {n : Nat} {m m1 m' : M} (ho : m.outcome = none) (hs : m.step = m1) (h : Go n m1 m') : Go (n + 1) m m' := by
  show (if m.outcome.isSome then m else M.runFor n m.step) = m'
  rw [ho, hs]
  exact h
theorem Go.trans {a b : Nat} {m m1 m' : M} (h : Go a m m1) (h' : Go b m1 m') : Go (a + b) m m' := by
  show M.runFor (a + b) m = m'
  rw [runFor_add, show M.runFor a m = m1 from h]
  exact h'
end Mine
end
section
open PySem PySem.W PyProof.Rows PySem.Calls
set_option maxRecDepth 100000
set_option maxHeartbeats 2000000
namespace Mine
open PySem.Sre
abbrev code1 : Array Nat := #[14, 4, 0, 1, 1, 6, 1, 16, 46, 1]
abbrev code2 : Array Nat := #[14, 9, 4, 1, 2, 16, 10, 16, 13, 0, 7, 7, 16, 13, 16, 10, 15, 18, 5, 16, 10, 15, 13, 11, 16, 13, 5, 5, 0, 16, 10, 1, 15, 2, 0, 1]
abbrev At1 (text : Array Nat) (s pc pos hd : Nat) (fst : Bool) (seen : Sre.Seen) (ans : Option Bool) : M :=
  { code := code1, text, lim := text.size, start := s, lastStart := text.size, pc, pos, handed := hd, outermost := fst, marks := #[], frames := [{ wait := .nextStart, pc := 5, pos := s, outermost := fst }], weight := 1, seen, answer := ans }
abbrev At2 (text : Array Nat) (s pc pos hd : Nat) (fst : Bool) (seen : Sre.Seen) (fs : List Sre.Frame) (wt : Nat) (ans : Option Bool) : M :=
  { code := code2, text, lim := text.size, start := s, lastStart := text.size, pc, pos, handed := hd, outermost := fst, marks := #[], frames := fs, weight := wt, seen, answer := ans }
def D1 (text : Array Nat) (j : Nat) : Prop := (j = 0 ∨ text.getD (j - 1) 0 = 10) ∧ text.getD j 0 = 46
def D2 (text : Array Nat) (j : Nat) : Prop := text.getD j 0 = 10 ∨ text.getD j 0 = 13
def Wd (text : Array Nat) (j : Nat) : Nat := if text.getD j 0 = 13 ∧ j + 1 < text.size ∧ text.getD (j + 1) 0 = 10 then 2 else 1
theorem st_atY {m : M} (ho : m.outcome = none) (ha : m.answer = none) (hpc : m.pc < m.code.size) (hw : m.code.getD m.pc 0 = 6) (hc : m.code.getD (m.pc + 1) 0 = 1) (hb : (m.pos == 0 || m.text.getD (m.pos - 1) 0 == 10) = true) :
    m.step = { m with seen := (m.seen.add 6).add 44, pc := m.pc + 2 } := st_at (b := true) ho ha hpc hw hc hb
theorem st_atN {m : M} (ho : m.outcome = none) (ha : m.answer = none) (hpc : m.pc < m.code.size) (hw : m.code.getD m.pc 0 = 6) (hc : m.code.getD (m.pc + 1) 0 = 1) (hb : (m.pos == 0 || m.text.getD (m.pos - 1) 0 == 10) = false) :
    m.step = { m with seen := (m.seen.add 6).add 44, answer := some false } := st_at (b := false) ho ha hpc hw hc hb
theorem At1_next {text : Array Nat} {s pc pos hd : Nat} {fst : Bool} {seen : Sre.Seen} (hs : s < text.size) : (At1 text s pc pos hd fst seen (some false)).step = At1 text (s + 1) 5 (s + 1) (s + 1) false seen none := by
  rw [rs_startNo rfl rfl rfl rfl, if_pos (by exact hs)]
  rfl
theorem At1_last {text : Array Nat} {s pc pos hd : Nat} {fst : Bool} {seen : Sre.Seen} (hs : s = text.size) : ∃ m', Go 2 (At1 text s pc pos hd fst seen (some false)) m' ∧ m'.outcome = some .failed := by
  refine ⟨_, .one rfl ((rs_startNo rfl rfl rfl rfl).trans (if_neg (by show ¬ s < text.size; (first | lia | omega)))) (.one rfl (rs_end (b := false) rfl rfl rfl) (.refl _)), rfl⟩
theorem At1_fail {text : Array Nat} {s : Nat} (fst : Bool) (seen : Sre.Seen) (h : s = text.size ∨ ¬ D1 text s) :
    ∃ n pc seen', n ≤ 2 ∧ Go n (At1 text s 5 s s fst seen none) (At1 text s pc s s fst seen' (some false)) := by
  cases hb : (s == 0 || text.getD (s - 1) 0 == 10) with
  | false => exact ⟨1, 5, _, by (first | lia | omega), .one rfl (st_atN rfl rfl (by show 5 < 10; (first | lia | omega)) rfl rfl hb) (.refl _)⟩
  | true =>
    refine ⟨2, 7, _, by (first | lia | omega), .one rfl (st_atY rfl rfl (by show 5 < 10; (first | lia | omega)) rfl rfl hb) (.one rfl (st_litno (c := 46) rfl rfl (by show 7 < 10; (first | lia | omega)) rfl rfl ?_) (.refl _))⟩
    show text.size ≤ s ∨ text.getD s 0 ≠ 46
    rcases h with h | h
    · left; (first | lia | omega)
    · right
      intro e
      refine h ⟨?_, e⟩
      rcases Bool.or_eq_true_iff.mp hb with h1 | h1
      · exact .inl (by simpa using h1)
      · exact .inr (by simpa using h1)
theorem At1_hit {text : Array Nat} {s : Nat} (fst : Bool) (seen : Sre.Seen) (hs : s < text.size) (h : D1 text s) :
    ∃ m', Go 5 (At1 text s 5 s s fst seen none) m' ∧ m'.outcome = some .matched ∧ m'.start = s ∧ m'.handed = s + 1 := by
  have hb : (s == 0 || text.getD (s - 1) 0 == 10) = true := by
    rcases h.1 with e | e
    · rw [e]; rfl
    · rw [e]; simp
  exact ⟨_, .one rfl (st_atY rfl rfl (by show 5 < 10; (first | lia | omega)) rfl rfl hb) (.one rfl (st_lit (c := 46) rfl rfl (by show 7 < 10; (first | lia | omega)) rfl rfl hs h.2)
    (.one rfl (st_succ rfl rfl (by show 9 < 10; (first | lia | omega)) rfl rfl rfl) (.one rfl (rs_yes rfl rfl rfl (.inr rfl)) (.one rfl (rs_end (b := true) rfl rfl rfl) (.refl _))))), rfl, rfl, rfl⟩
/-- what a search finds -/
def Found (D : Nat → Prop) (wd : Nat → Nat) (s e : Nat) (m : M) : Prop :=
  (m.outcome = some .failed ∧ ∀ j, s ≤ j → j < e → ¬ D j) ∨ ∃ j, s ≤ j ∧ j < e ∧ D j ∧ (∀ i, s ≤ i → i < j → ¬ D i) ∧ m.outcome = some .matched ∧ m.start = j ∧ m.handed = j + wd j
theorem srch1 (text : Array Nat) : ∀ (k s : Nat) (fst : Bool) (seen : Sre.Seen), s + k = text.size → ∃ n m', n ≤ 3 * k + 5 ∧ Go n (At1 text s 5 s s fst seen none) m' ∧ Found (D1 text) (fun _ => 1) s text.size m'
  | 0, s, fst, seen, hk => by
    obtain ⟨n, pc, seen', hn, g⟩ := At1_fail fst seen (.inl (show s = text.size by (first | lia | omega)))
    obtain ⟨m', g', ho⟩ := At1_last (pc := pc) (pos := s) (hd := s) (fst := fst) (seen := seen') (show s = text.size by (first | lia | omega))
    exact ⟨n + 2, m', by (first | lia | omega), g.trans g', .inl ⟨ho, fun j h1 h2 => by (first | lia | omega)⟩⟩
  | k + 1, s, fst, seen, hk => by
    by_cases h : D1 text s
    · obtain ⟨m', g, h1, h2, h3⟩ := At1_hit fst seen (by (first | lia | omega)) h
      exact ⟨5, m', by (first | lia | omega), g, .inr ⟨s, Nat.le_refl _, by (first | lia | omega), h, fun i h1 h2 => by (first | lia | omega), h1, h2, h3⟩⟩
    · obtain ⟨n, pc, seen', hn, g⟩ := At1_fail fst seen (.inr h)
      obtain ⟨n', m', hn', g', hF⟩ := srch1 text k (s + 1) false seen' (by (first | lia | omega))
      refine ⟨n + (n' + 1), m', by (first | lia | omega), g.trans (.one rfl (At1_next (by (first | lia | omega))) g'), ?_⟩
      rcases hF with ⟨ho, hj⟩ | ⟨j, h1, h2, h3, h4, h5⟩
      · refine .inl ⟨ho, fun j h1 h2 => ?_⟩
        by_cases e : j = s
        · rw [e]; exact h
        · exact hj j (by (first | lia | omega)) h2
      · refine .inr ⟨j, by (first | lia | omega), h2, h3, fun i h6 h7 => ?_, h5⟩
        by_cases e : i = s
        · rw [e]; exact h
        · exact h4 i (by (first | lia | omega)) h7
theorem search1 (text : Array Nat) (p : Nat) (hp : p ≤ text.size) : ∃ n m', n ≤ 3 * text.size + 5 ∧ Go n (Sre.forSearch code1 text 0 p text.size false) m' ∧ Found (D1 text) (fun _ => 1) p text.size m' := by
  by_cases h : p = text.size
  · have e : Sre.forSearch code1 text 0 p text.size false = { code := code1, text, lim := text.size, start := p, pc := 5, pos := p, handed := p, marks := #[], seen := ({} : Sre.Seen).add 14, answer := some false } := by
      show (if (decide (p > text.size) || decide (text.size - p < 1)) = true then _ else _) = _
      rw [if_pos (by simp; (first | lia | omega))]
      rfl
    rw [e]
    exact ⟨1, _, by (first | lia | omega), .one rfl (rs_end (b := false) rfl rfl rfl) (.refl _), .inl ⟨rfl, fun j h1 h2 => by (first | lia | omega)⟩⟩
  · have e : Sre.forSearch code1 text 0 p text.size false = At1 text p 5 p p true (({} : Sre.Seen).add 14) none := by
      show (if (decide (p > text.size) || decide (text.size - p < 1)) = true then _ else _) = _
      rw [if_neg (by simp; (first | lia | omega))]
      rfl
    rw [e]
    obtain ⟨n, m', hn, r⟩ := srch1 text (text.size - p) p true (({} : Sre.Seen).add 14) (by (first | lia | omega))
    exact ⟨n, m', by (first | lia | omega), r⟩
/-! the second pattern -/
theorem inSet2 (c : Nat) (seen : Sre.Seen) : ∃ seen', inSet code2 c code2.size 5 true seen = .ok (decide (c = 10 ∨ c = 13), seen') := by
  have e : inSet code2 c code2.size 5 true seen = (if (c == 10) = true then .ok (true, seen.add 16) else if (c == 13) = true then .ok (true, (seen.add 16).add 16) else .ok (false, ((seen.add 16).add 16).add 0)) := rfl
  rw [e]
  by_cases h1 : c = 10
  · rw [if_pos (by simp [h1])]; exact ⟨_, by simp [h1]; rfl⟩
  · rw [if_neg (by simp [h1])]
    by_cases h2 : c = 13
    · rw [if_pos (by simp [h2])]; exact ⟨_, by simp [h2]; rfl⟩
    · rw [if_neg (by simp [h2])]; exact ⟨_, by simp [h1, h2]; rfl⟩
theorem admitted2 {m : M} (hc : m.code = code2) : ∀ (fuel s : Nat) (seen : Sre.Seen), m.lim < s + fuel → 
    (∃ seen', M.admitted m fuel s seen = .ok (none, seen') ∧ ∀ j, s ≤ j → j < m.lim → ¬ D2 m.text j) ∨ ∃ j seen', M.admitted m fuel s seen = .ok (some j, seen') ∧ s ≤ j ∧ j < m.lim ∧ D2 m.text j ∧ ∀ i, s ≤ i → i < j → ¬ D2 m.text i
  | 0, s, seen, h => .inl ⟨seen, rfl, fun j h1 h2 => by (first | lia | omega)⟩
  | fuel + 1, s, seen, h => by
    by_cases hs : m.lim ≤ s
    · exact .inl ⟨seen, by unfold M.admitted; rw [if_pos hs], fun j h1 h2 => by (first | lia | omega)⟩
    · obtain ⟨seen', e⟩ := inSet2 (m.text.getD s 0) seen
      by_cases hd : D2 m.text s
      · refine .inr ⟨s, seen', ?_, Nat.le_refl _, by (first | lia | omega), hd, fun i h1 h2 => by (first | lia | omega)⟩
        unfold M.admitted
        rw [if_neg hs, hc, e, show decide (m.text.getD s 0 = 10 ∨ m.text.getD s 0 = 13) = true from decide_eq_true hd]
      · have e2 : M.admitted m (fuel + 1) s seen = M.admitted m fuel (s + 1) seen' := by
          show (if s ≥ m.lim then _ else _) = _
          rw [if_neg hs, hc, e, show decide (m.text.getD s 0 = 10 ∨ m.text.getD s 0 = 13) = false from decide_eq_false hd]
        rw [e2]
        rcases admitted2 hc fuel (s + 1) seen' (by (first | lia | omega)) with ⟨x, h1, h2⟩ | ⟨j, x, h1, h2, h3, h4, h5⟩
        · refine .inl ⟨x, h1, fun j h3 h4 => ?_⟩
          by_cases q : j = s
          · rw [q]; exact hd
          · exact h2 j (by (first | lia | omega)) h4
        · refine .inr ⟨j, x, h1, by (first | lia | omega), h3, h4, fun i h6 h7 => ?_⟩
          by_cases q : i = s
          · rw [q]; exact hd
          · exact h5 i (by (first | lia | omega)) h7
theorem hit2 {text : Array Nat} {s : Nat} (fst : Bool) (seen : Sre.Seen) (hs : s < text.size) (h : D2 text s) :
    ∃ n m', n ≤ 20 ∧ Go n (At2 text s 10 s s fst seen [{ wait := .nextStart, pc := 10, pos := s, outermost := fst }] 1 none) m' ∧ m'.outcome = some .matched ∧ m'.start = s ∧ m'.handed = s + Wd text s := by
  unfold Wd
  rcases h with h10 | h13
  · rw [if_neg (by rw [h10]; (first | lia | omega))]
    refine ⟨9, _, by (first | lia | omega), .one rfl (st_branch rfl rfl (by show 10 < 36; (first | lia | omega)) rfl rfl rfl rfl (by show 7 ≠ 0; (first | lia | omega)) (by show 2 ≤ 16777216; (first | lia | omega))) (.one rfl (st_litno (c := 13) rfl rfl (by show 12 < 36; (first | lia | omega)) rfl rfl (.inr (by show text.getD s 0 ≠ 13; (first | lia | omega))))
      (.one rfl (rs_branchNo rfl rfl rfl (by show 5 ≠ 0; (first | lia | omega)) (by show 3 ≤ 16777216; (first | lia | omega))) (.one rfl (st_lit (c := 10) rfl rfl (by show 19 < 36; (first | lia | omega)) rfl rfl hs h10) (.one rfl (st_jump rfl rfl (by show 21 < 36; (first | lia | omega)) rfl)
      (.one rfl (st_succ rfl rfl (by show 35 < 36; (first | lia | omega)) rfl rfl rfl) (.one rfl (rs_yes rfl rfl rfl (.inl rfl)) (.one rfl (rs_yes rfl rfl rfl (.inr rfl)) (.one rfl (rs_end (b := true) rfl rfl rfl) (.refl _))))))))), rfl, rfl, rfl⟩
  · by_cases h2 : s + 1 < text.size ∧ text.getD (s + 1) 0 = 10
    · rw [if_pos ⟨h13, h2⟩]
      refine ⟨8, _, by (first | lia | omega), .one rfl (st_branch rfl rfl (by show 10 < 36; (first | lia | omega)) rfl rfl rfl rfl (by show 7 ≠ 0; (first | lia | omega)) (by show 2 ≤ 16777216; (first | lia | omega))) (.one rfl (st_lit (c := 13) rfl rfl (by show 12 < 36; (first | lia | omega)) rfl rfl hs h13)
        (.one rfl (st_lit (c := 10) rfl rfl (by show 14 < 36; (first | lia | omega)) rfl rfl h2.1 h2.2) (.one rfl (st_jump rfl rfl (by show 16 < 36; (first | lia | omega)) rfl)
        (.one rfl (st_succ rfl rfl (by show 35 < 36; (first | lia | omega)) rfl rfl rfl) (.one rfl (rs_yes rfl rfl rfl (.inl rfl)) (.one rfl (rs_yes rfl rfl rfl (.inr rfl)) (.one rfl (rs_end (b := true) rfl rfl rfl) (.refl _)))))))), rfl, rfl, rfl⟩
    · rw [if_neg (fun x => h2 x.2)]
      have hno : text.size ≤ s + 1 ∨ text.getD (s + 1) 0 ≠ 10 := by
        by_cases q : text.size ≤ s + 1
        · exact .inl q
        · exact .inr fun e => h2 ⟨by (first | lia | omega), e⟩
      refine ⟨15, _, by (first | lia | omega), .one rfl (st_branch rfl rfl (by show 10 < 36; (first | lia | omega)) rfl rfl rfl rfl (by show 7 ≠ 0; (first | lia | omega)) (by show 2 ≤ 16777216; (first | lia | omega))) (.one rfl (st_lit (c := 13) rfl rfl (by show 12 < 36; (first | lia | omega)) rfl rfl hs h13)
        (.one rfl (st_litno (c := 10) rfl rfl (by show 14 < 36; (first | lia | omega)) rfl rfl hno) (.one rfl (rs_branchNo rfl rfl rfl (by show 5 ≠ 0; (first | lia | omega)) (by show 3 ≤ 16777216; (first | lia | omega))) (.one rfl (st_litno (c := 10) rfl rfl (by show 19 < 36; (first | lia | omega)) rfl rfl (.inr (by show text.getD s 0 ≠ 10; (first | lia | omega))))
        (.one rfl (rs_branchNo rfl rfl rfl (by show 11 ≠ 0; (first | lia | omega)) (by show 3 ≤ 16777216; (first | lia | omega))) (.one rfl (st_lit (c := 13) rfl rfl (by show 24 < 36; (first | lia | omega)) rfl rfl hs h13) (.one rfl (st_look rfl rfl (by show 26 < 36; (first | lia | omega)) rfl rfl rfl rfl rfl (by show 3 ≤ 16777216; (first | lia | omega)))
        (.one rfl (st_litno (c := 10) rfl rfl (by show 29 < 36; (first | lia | omega)) rfl rfl hno) (.one rfl (rs_look rfl rfl rfl) (.one rfl (st_jump rfl rfl (by show 32 < 36; (first | lia | omega)) rfl)
        (.one rfl (st_succ rfl rfl (by show 35 < 36; (first | lia | omega)) rfl rfl rfl) (.one rfl (rs_yes rfl rfl rfl (.inl rfl)) (.one rfl (rs_yes rfl rfl rfl (.inr rfl)) (.one rfl (rs_end (b := true) rfl rfl rfl) (.refl _))))))))))))))), rfl, rfl, rfl⟩
theorem search2 (text : Array Nat) (p : Nat) (hp : p ≤ text.size) : ∃ n m', n ≤ 3 * text.size + 20 ∧ Go n (Sre.forSearch code2 text 0 p text.size false) m' ∧ Found (D2 text) (Wd text) p text.size m' := by
  by_cases h : p = text.size
  · have e : Sre.forSearch code2 text 0 p text.size false = { code := code2, text, lim := text.size, start := p, pc := 10, pos := p, handed := p, marks := #[], seen := ({} : Sre.Seen).add 14, answer := some false } := by
      show (if (decide (p > text.size) || decide (text.size - p < 1)) = true then _ else _) = _
      rw [if_pos (by simp; (first | lia | omega))]
      rfl
    rw [e]
    exact ⟨1, _, by (first | lia | omega), .one rfl (rs_end (b := false) rfl rfl rfl) (.refl _), .inl ⟨rfl, fun j h1 h2 => by (first | lia | omega)⟩⟩
  · have e : Sre.forSearch code2 text 0 p text.size false = M.attemptFrom { code := code2, text, lim := text.size, start := p, lastStart := text.size, pc := 10, pos := p, handed := p, marks := #[], seen := ({} : Sre.Seen).add 14 } p true := by
      show (if (decide (p > text.size) || decide (text.size - p < 1)) = true then _ else _) = _
      rw [if_neg (by simp; (first | lia | omega))]
      rfl
    rw [e]
    unfold M.attemptFrom
    rw [if_neg (by show ¬ (!true) = true; decide)]
    rcases admitted2 (m := { code := code2, text, lim := text.size, start := p, lastStart := text.size, pc := 10, pos := p, handed := p, marks := #[], seen := ({} : Sre.Seen).add 14 }) rfl (text.size + 1 - p) p (({} : Sre.Seen).add 14) (by show text.size < _; (first | lia | omega)) with ⟨x, h1, h2⟩ | ⟨j, x, h1, h2, h3, h4, h5⟩
    · dsimp only at h1 ⊢
      rw [h1]
      exact ⟨1, _, by (first | lia | omega), .one rfl (rs_end (b := false) rfl rfl rfl) (.refl _), .inl ⟨rfl, h2⟩⟩
    · dsimp only at h1 ⊢
      rw [h1]
      obtain ⟨n, m', hn, g, g1, g2, g3⟩ := hit2 (text := text) (s := j) true x h3 h4
      exact ⟨n, m', by (first | lia | omega), g, .inr ⟨j, h2, h3, h4, h5, g1, g2, g3⟩⟩
end Mine
end
section
open PySem PySem.W PyProof.Rows PySem.Calls
set_option maxRecDepth 100000
set_option maxHeartbeats 2000000
namespace Mine
open PySem.F in
theorem plainAttrs_pat : PlainAttrs "re.Pattern" :=
  ⟨⟨"object.__getattribute__", by rw [typeLookup_type, builtinLookup_eq_fast]; kernel_rfl, by decide +kernel⟩, by rw [typeLookup_type, builtinLookup_eq_fast]; kernel_rfl⟩
theorem slot_pat_sub : Slot "re.Pattern" "sub" "re.Pattern.sub" :=
  .of (owner := "re.Pattern") (n := "sub") (by rw [typeLookup_type, builtinLookup_eq_fast]; kernel_rfl) (by decide +kernel) (by decide +kernel) (by decide +kernel)
    (by first | exact .inl (by decide +kernel) | exact .inr (by decide +kernel)) (by rw [isSubtype_type]; kernel_rfl)
theorem type_pat_sub : typeOf (.builtin "re.Pattern.sub") = pure (.type "method_descriptor") := by show builtinType _ = _; rw [builtinType_eq_fast]; kernel_rfl
theorem entry_pat_sub : entryFor table "re.Pattern.sub" = some Builtin.«re.Pattern.sub» := entryFor_of_tree (by kernel_rfl)
theorem entry_pat_loop : entryFor table "re.Pattern.sub.loop" = some Builtin.«re.Pattern.sub.loop» := entryFor_of_tree (by kernel_rfl)
theorem args_pat_sub (a b c : Value) : argsOk "re.Pattern.sub" ⟨[a, b, c], []⟩ := by unfold argsOk; kernel_rfl
theorem plain_pat_loop : plainId "re.Pattern.sub.loop" = true := by decide +kernel
open PySem.Sre PySem.Builtin PySem.Builtin.Re
section
variable {w : World} {A : Around} {E : Value → Shared → Prop} {s : Shared}
theorem drive {Q : M → Shared → Prop} : ∀ (turns n : Nat) (m m' : M), Go n m m' → m'.outcome.isSome = true → n ≤ 4 * turns → 0 < turns → Q m' s → wpAny (model prog w) A (reDrive turns m) Q E s
  | 0, _, _, _, _, _, _, h, _ => absurd h (Nat.lt_irrefl 0)
  | turns + 1, n, m, m', g, ho, hn, _, hq => by
    unfold reDrive
    by_cases h4 : n ≤ 4
    · have e : m.runFor reTurnSteps = m' := by
        show M.runFor 4 m = m'
        rw [show 4 = n + (4 - n) by (first | lia | omega), runFor_add, show M.runFor n m = m' from g, runFor_some _ ho]
      dsimp only
      rw [e, if_pos ho]
      exact wpAny_pure hq
    · dsimp only
      by_cases hs : (m.runFor reTurnSteps).outcome.isSome = true
      · have e : m.runFor reTurnSteps = m' := by
          rw [show m' = M.runFor n m from (show M.runFor n m = m' from g).symm, show n = 4 + (n - 4) by (first | lia | omega), runFor_add]
          exact (runFor_some _ hs).symm
        rw [if_pos hs, e]
        exact wpAny_pure hq
      · rw [if_neg hs]
        refine wpAny_bind (wpAny_rule ?_)
        refine drive turns (n - 4) _ m' ?_ ho (by (first | lia | omega)) (by (first | lia | omega)) hq
        show M.runFor (n - 4) (M.runFor 4 m) = m'
        rw [← runFor_add, show 4 + (n - 4) = n by (first | lia | omega)]
        exact g
theorem seenRules {Q : PUnit → Shared → Prop} (m : M) (h : Q ⟨⟩ s) : ∀ (l : List Nat), wpAny (model prog w) A (forIn l PUnit.unit fun i __s => if m.seen.has i = true then (do rule (Sre.names.getD i ""); pure (ForInStep.yield PUnit.unit)) else pure (ForInStep.yield PUnit.unit)) Q E s
  | [] => wpAny_pure h
  | i :: l => by
    rw [List.forIn_cons]
    refine wpAny_bind ?_
    by_cases hs : m.seen.has i = true
    · rw [if_pos hs]
      exact wpAny_bind (wpAny_rule (wpAny_pure (seenRules m h l)))
    · rw [if_neg hs]
      exact wpAny_pure (seenRules m h l)
theorem le64 {n : Nat} (hn : n ≤ 1000000) : n ≤ 4 * 2 ^ 64 := Nat.le_trans hn (by decide)
theorem runEnd {Q : Option M → Shared → Prop} {n : Nat} {m m' : M} (g : Go n m m') (hn : n ≤ 1000000) {b : Bool} (ho : m'.outcome = some (if b then .matched else .failed)) (hq : Q (if b then some m' else none) s) : wpAny (model prog w) A (reRunToEnd m) Q E s := by
  unfold reRunToEnd
  refine wpAny_bind (drive (2 ^ 64) n m m' g (by rw [ho]; rfl) (le64 hn) (by decide) ?_)
  refine wpAny_bind (seenRules m' ?_ _)
  rw [ho]
  cases b with
  | true => exact wpAny_pure hq
  | false => exact wpAny_pure hq
end
end Mine
end
section
open PySem PySem.W PyProof.Rows PySem.Calls
set_option maxRecDepth 100000
set_option maxHeartbeats 1000000
namespace Mine
open PySem.Sre PySem.Builtin PySem.Builtin.Re
abbrev PatR (code : Array Nat) : Flt.PatRec := ⟨Str.empty, code.toList, 0, 0⟩
def outF (b : Nat → Bool) (wd : Nat → Nat) (repl : List Nat) (text : Array Nat) : Nat → Nat → List Nat
  | 0, _ => []
  | n + 1, p => if p < text.size then (if b p = true then repl ++ outF b wd repl text n (p + wd p) else text.getD p 0 :: outF b wd repl text n (p + 1)) else []
theorem outF_fuel (b : Nat → Bool) (wd : Nat → Nat) (hw : ∀ j, 1 ≤ wd j) (repl : List Nat) (text : Array Nat) : ∀ (n n' p : Nat), text.size ≤ p + n → text.size ≤ p + n' → outF b wd repl text n p = outF b wd repl text n' p
  | 0, 0, _, _, _ => rfl
  | 0, n' + 1, p, h, _ => by simp only [outF]; rw [if_neg (by (first | lia | omega))]
  | n + 1, 0, p, _, h => by simp only [outF]; rw [if_neg (by (first | lia | omega))]
  | n + 1, n' + 1, p, h, h' => by
    have := hw p
    simp only [outF]
    split
    · split
      · rw [outF_fuel b wd hw repl text n n' _ (by (first | lia | omega)) (by (first | lia | omega))]
      · rw [outF_fuel b wd hw repl text n n' _ (by (first | lia | omega)) (by (first | lia | omega))]
    · rfl
/-- the rest of the text, turned -/
def outT (b : Nat → Bool) (wd : Nat → Nat) (repl : List Nat) (text : Array Nat) (p : Nat) : List Nat := outF b wd repl text (text.size - p) p
theorem outT_step {b : Nat → Bool} {wd : Nat → Nat} (hw : ∀ j, 1 ≤ wd j) {repl : List Nat} {text : Array Nat} {p : Nat} (hp : p < text.size) :
    outT b wd repl text p = if b p = true then repl ++ outT b wd repl text (p + wd p) else text.getD p 0 :: outT b wd repl text (p + 1) := by
  have := hw p
  unfold outT
  rw [show text.size - p = (text.size - p - 1) + 1 by (first | lia | omega)]
  simp only [outF]
  rw [if_pos hp]
  rw [outF_fuel b wd hw repl text (text.size - p - 1) (text.size - (p + wd p)) _ (by (first | lia | omega)) (by (first | lia | omega)), outF_fuel b wd hw repl text (text.size - p - 1) (text.size - (p + 1)) _ (by (first | lia | omega)) (by (first | lia | omega))]
theorem outT_end {b : Nat → Bool} {wd : Nat → Nat} {repl : List Nat} {text : Array Nat} {p : Nat} (hp : text.size ≤ p) : outT b wd repl text p = [] := by
  unfold outT
  rw [show text.size - p = 0 by (first | lia | omega)]
  rfl
theorem cut_cons (text : Array Nat) {p e : Nat} (hp : p < e) (he : e ≤ text.size) : (text.extract p e).toList = text.getD p 0 :: (text.extract (p + 1) e).toList := by
  rw [Array.toList_extract, Array.toList_extract]
  simp only [List.extract_eq_take_drop]
  have hl : p < text.toList.length := by simp; (first | lia | omega)
  rw [List.drop_eq_getElem_cons hl, show e - p = (e - (p + 1)) + 1 by (first | lia | omega), List.take_succ_cons]
  congr 1
  simp [Array.getD, show p < text.size by (first | lia | omega)]
theorem outT_skip {b : Nat → Bool} {wd : Nat → Nat} (hw : ∀ j, 1 ≤ wd j) {repl : List Nat} {text : Array Nat} : ∀ (k p e : Nat), p + k = e → e ≤ text.size → (∀ i, p ≤ i → i < e → ¬ b i = true) →
    outT b wd repl text p = (text.extract p e).toList ++ outT b wd repl text e
  | 0, p, e, h, _, _ => by
    obtain rfl : p = e := by (first | lia | omega)
    simp
  | k + 1, p, e, h, he, hn => by
    rw [outT_step hw (by (first | lia | omega)), if_neg (hn p (Nat.le_refl _) (by (first | lia | omega))), outT_skip hw k (p + 1) e (by (first | lia | omega)) he fun i h1 h2 => hn i (by (first | lia | omega)) h2, cut_cons text (p := p) (by (first | lia | omega)) he]
    rfl
/-- the texts of a list, glued -/
def cat (ys : List Str) : List Nat := ys.flatMap fun y => y.cps.toList
theorem cat_snoc (ys : List Str) (y : Str) : cat (ys ++ [y]) = cat ys ++ y.cps.toList := by simp [cat]
theorem join_cat : ∀ ys : List Str, Str.join ⟨#[]⟩ ys = ⟨(cat ys).toArray⟩
  | [] => rfl
  | [x] => by simp [cat, Str.join]
  | x :: y :: r => by
    show x ++ (⟨#[]⟩ : Str) ++ Str.join ⟨#[]⟩ (y :: r) = _
    rw [join_cat (y :: r)]
    have e : ∀ a b : Str, a ++ b = ⟨a.cps ++ b.cps⟩ := fun _ _ => rfl
    rw [e, e]
    simp [cat]
theorem join_catT (ys : List Str) : Txt.join ⟨#[]⟩ ys = ⟨(cat ys).toArray⟩ := by
  unfold Txt.join
  rw [StrLaws.glued_eq_join, join_cat]
section
variable {w : World} {A : Around} {E : Value → Shared → Prop} {s : Shared} {B : Bs} {L : Addr} {m mg : Str → Option Value} {zs : List (Addr × Obj)} {env : Env}
theorem wholeT {P : Addr} {code : Array Nat} {x : Str} {t : Tok} {Q : ReTarget → Shared → Prop} (ho : Flt.IsPattern s.heap P (PatR code))
    (h : Q { pattern := .ref P, string := .str x t, code := code, text := x.cps, kind := 0, groups := 0, pos := 0, lim := x.cps.size } s) : wpAny (model prog w) A (reWholeTarget (.ref P) (.str x t)) Q E s := by
  obtain ⟨fs, T, ws, n, h1, h2, h3, h4, h5, h6⟩ := ho
  unfold reWholeTarget
  refine wpAny_bind (wpAny_fieldsOf h1 rfl ?_)
  refine wpAny_bind (wpAny_of_eq (show reTextOf (.str x t) = pure (x.cps, 0) from rfl) ?_)
  dsimp only
  rw [show (reRawNat (fs.getD 6 Value.none) == 0 && (0 : Nat) == 1) = false by simp, show (reRawNat (fs.getD 6 Value.none) == 1 && (0 : Nat) == 0) = false by rw [h4]; rfl]
  simp only [Bool.false_eq_true, if_false]
  refine wpAny_bind (wpAny_of_eq (show reNoCollectionInside (.str x t) 0 = pure () from rfl) ?_)
  rw [h2, h3]
  unfold reRawItems
  refine wpAny_bind (wpAny_bind (wpAny_seqItems h5 rfl ?_))
  refine wpAny_pure ?_
  refine wpAny_pure ?_
  have e : (ws.map reRawOf).map (·.toNat) = code := by
    apply Array.toList_inj.mp
    exact h6
  show Q { pattern := .ref P, string := .str x t, code := (ws.map reRawOf).map (·.toNat), text := x.cps, kind := 0, groups := 0, pos := 0, lim := x.cps.size } s
  rw [e]
  exact h
/-- what a pattern's search finds, from any place -/
def Finds (code : Array Nat) (text : Array Nat) (b : Nat → Bool) (wd : Nat → Nat) : Prop :=
  ∀ p, p ≤ text.size → ∃ n m', n ≤ 1000000 ∧ Go n (Sre.forSearch code text 0 p text.size false) m' ∧ Found (fun j => b j = true) wd p text.size m'
theorem upL {l : Addr} {vs : List Value} {c : Nat} {v : Value} {Q : Unit → Shared → Prop} (S : St B L m ((l, lob vs c) :: zs) s) (hz : vs.length ≤ 1000000)
    (h : ∀ s', St B L m ((l, lob (vs ++ [v]) (c + 1)) :: zs) s' → Q () s') : wpAny (model prog w) A (updateSeq l (·.push v)) Q E s := by
  have hlt : vs.length ≤ sizeLine := Nat.le_trans hz (by decide)
  refine wpAny_updateSeq (S.get (.head _)) rfl ?_ (by rw [List.size_toArray]; exact hlt) (by rw [Array.size_push, List.size_toArray]; (first | lia | omega))
  refine h _ (S.upd .head (Heap.SameBut.update ..) ?_ s.toks)
  rw [Heap.get?_update_self _ (S.get (.head _)) (by rw [mapSeq_push]; rfl), mapSeq_push, List.push_toArray]
theorem sub_loop {P l : Addr} {code : Array Nat} {x repl : Str} {t tr : Tok} {b : Nat → Bool} {wd : Nat → Nat} {R : Result → Shared → Prop} (hP : Flt.IsPattern B.h P (PatR code)) (hf : Finds code x.cps b wd) (hw : ∀ j, 1 ≤ wd j) (hw2 : ∀ j, j < x.cps.size → j + wd j ≤ x.cps.size) (hx : x.cps.size ≤ 100000) (hrl : repl.cps.size ≤ 2)
    (hR : ∀ t' s', St B L m zs s' → R (.ok (.ret (.str ⟨(outT b wd repl.cps.toList x.cps 0).toArray⟩ t'))) s') :
    ∀ (k p n c : Nat) (s : Shared) (vs : List Value) (ys : List Str), x.cps.size - p ≤ k → p ≤ x.cps.size → St B L m ((l, lob vs c) :: zs) s → Fa StrV vs ys → ys.length ≤ 2 * p → (ys.map (·.length)).sum ≤ 2 * p →
      cat ys ++ outT b wd repl.cps.toList x.cps p = outT b wd repl.cps.toList x.cps 0 →
      codeAny (model prog w) A (.builtin "re.Pattern.sub.loop" ⟨[.ref P, .str x t, .str repl tr, rawInt 0, rawInt 0, rawInt n, rawInt p, rawInt p, .bool false, .ref l, .bool false], []⟩) R s
  := by
    intro k
    induction k using Nat.strongRecOn with
    | _ k ih =>
    intro p n c s vs ys hk hp S hF hl1 hl2 hcat
    refine codeAny_builtin entry_pat_loop ?_
    rw [Around.under_plainId plain_pat_loop _]
    show wpAny _ A.in1 (reWholeTarget (.ref P) (.str x t) >>= _) _ _ s
    refine wpAny_bind (wholeT (hP.keeps S.F.keep) ?_)
    refine wpAny_bind (wpAny_of_eq (show reLiteralCannotBeTurned (.str repl tr) = pure () from rfl) ?_)
    show wpAny _ A.in1 (reRunToEnd (Sre.forSearch code x.cps 0 ((p : Nat) : Int).toNat x.cps.size false) >>= _) _ _ s
    rw [show ((p : Nat) : Int).toNat = p from Int.toNat_natCast p]
    obtain ⟨st, m', hn, g, hFd⟩ := hf p hp
    rcases hFd with ⟨ho, hno⟩ | ⟨j, h1, h2, h3, h4, ho, hs, hh⟩
    · refine wpAny_bind (runEnd g hn (b := false) ho ?_)
      have hend : outT b wd repl.cps.toList x.cps p = (x.cps.extract p x.cps.size).toList := by
        rw [outT_skip hw (x.cps.size - p) p x.cps.size (by (first | lia | omega)) (Nat.le_refl _) hno, outT_end (Nat.le_refl _), List.append_nil]
      have fin : ∀ (s : Shared) (vs : List Value) (c : Nat) (ys : List Str), St B L m ((l, lob vs c) :: zs) s → Fa StrV vs ys → ys.length ≤ 2 * p + 1 → (ys.map (·.length)).sum ≤ 2 * p + x.cps.size → cat ys = outT b wd repl.cps.toList x.cps 0 →
          wpAny (model prog w) A.in1 (do
            let joiner ← mkStr ⟨x.cps.extract 0 0⟩
            let items ← seqItems? (.ref l)
            let text ← if (items.getD #[]).isEmpty then pure joiner else call (.builtin "str.join") [joiner, .ref l]
            ret text : Sem PySem.Fin) (fun fin s' => match fin with | .done f => R (.ok f) s' | .again c' => c'.quiet = true ∧ codeAny (model prog w) A c' R s') (fun e s' => R (.error e) s') s := by
        intro s vs c ys S hF hl1 hl2 hcat
        have e0 : x.cps.extract 0 0 = #[] := by simp
        rw [e0]
        refine wpAny_bind (wpAny_mkStr ?_ (by show (#[] : Array Nat).size ≤ _; exact Nat.zero_le _))
        replace S := S.tk (s.toks + 1)
        refine wpAny_bind (wpAny_seqItems (S.get (.head _)) rfl ?_)
        show wpAny _ _ (if (vs.toArray).isEmpty = true then _ else _) _ _ _
        cases hF with
        | nil =>
          show wpAny _ _ (ret (.str ⟨#[]⟩ s.toks)) _ _ _
          refine wpAny_pure ?_
          have := hR s.toks _ S.drop1
          rw [← hcat] at this
          exact this
        | @cons v y vs ys hx hr =>
          have hF' : Fa StrV (v :: vs) (y :: ys) := .cons hx hr
          rw [if_neg (by simp)]
          refine wpAny_bind ?_
          refine join_listW (isL S (.head _)) (by simpa using hF'.strs) (by show (#[] : Array Nat).size ≤ _; exact Nat.zero_le _) (by (first | lia | omega)) ?_
          intro t' k'
          refine wpAny_pure ?_
          have := hR t' _ (S.drop1.tk k')
          rw [← hcat] at this
          rw [join_catT]
          exact this
      by_cases hlt : p < x.cps.size
      · show wpAny _ A.in1 (if ((p : Nat) : Int).toNat < x.cps.size then _ else _) _ _ s
        rw [Int.toNat_natCast, if_pos hlt]
        show wpAny _ A.in1 (mkStr ⟨x.cps.extract p x.cps.size⟩ >>= _) _ _ s
        refine wpAny_bind (wpAny_mkStr ?_ (by show (x.cps.extract p x.cps.size).size ≤ _; rw [Array.size_extract]; exact Nat.le_trans (show _ ≤ 100000 by (first | lia | omega)) (by decide)))
        replace S := S.tk (s.toks + 1)
        refine wpAny_bind (upL S (by rw [hF.len]; (first | lia | omega)) ?_); intro s S
        refine fin _ _ _ (ys ++ [⟨x.cps.extract p x.cps.size⟩]) S (hF.app (.cons ⟨_, rfl⟩ .nil)) (by simp; (first | lia | omega)) ?_ ?_
        · simp only [List.map_append, List.sum_append, List.map_cons, List.map_nil, List.sum_cons, List.sum_nil]
          have : (⟨x.cps.extract p x.cps.size⟩ : Str).length ≤ x.cps.size := by show (x.cps.extract p x.cps.size).size ≤ _; rw [Array.size_extract]; (first | lia | omega)
          (first | lia | omega)
        · rw [cat_snoc, ← hcat, hend]
      · show wpAny _ A.in1 (if ((p : Nat) : Int).toNat < x.cps.size then _ else _) _ _ s
        rw [Int.toNat_natCast, if_neg hlt]
        refine fin s vs c ys S hF (by (first | lia | omega)) (by (first | lia | omega)) ?_
        rw [outT_end (by (first | lia | omega)), List.append_nil] at hcat
        exact hcat
    · refine wpAny_bind (runEnd g hn (b := true) ho ?_)
      have hwj := hw j
      have hout : outT b wd repl.cps.toList x.cps p = (x.cps.extract p j).toList ++ (repl.cps.toList ++ outT b wd repl.cps.toList x.cps (j + wd j)) := by
        rw [outT_skip hw (j - p) p j (by (first | lia | omega)) (by (first | lia | omega)) h4, outT_step hw h2, if_pos h3]
      have hjs := hw2 j h2
      have tail : ∀ (s : Shared) (vs : List Value) (c : Nat) (ys : List Str), St B L m ((l, lob vs c) :: zs) s → Fa StrV vs ys → ys.length ≤ 2 * p + 1 → (ys.map (·.length)).sum ≤ 2 * p + (j - p) → cat ys ++ (repl.cps.toList ++ outT b wd repl.cps.toList x.cps (j + wd j)) = outT b wd repl.cps.toList x.cps 0 →
          wpAny (model prog w) A.in1 (do
            let _ ← updateSeq l (·.push (.str repl tr))
            again (.builtin "re.Pattern.sub.loop" ⟨[.ref P, .str x t, .str repl tr, rawInt 0, rawInt 0, rawInt (((n : Nat) : Int) + 1), rawInt m'.handed, rawInt m'.handed, .bool (m'.handed == j), .ref l, .bool false], []⟩) : Sem PySem.Fin)
            (fun fin s' => match fin with | .done f => R (.ok f) s' | .again c' => c'.quiet = true ∧ codeAny (model prog w) A c' R s') (fun e s' => R (.error e) s') s := by
        intro s vs c ys S hF hl1 hl2 hcat
        refine wpAny_bind (upL S (by rw [hF.len]; (first | lia | omega)) ?_); intro s S
        have e1 : (m'.handed == j) = false := by rw [hh]; simp; (first | lia | omega)
        rw [e1, hh]
        refine wpAny_pure ⟨plainId_quiet plain_pat_loop _, ?_⟩
        refine ih (x.cps.size - (j + wd j)) (by (first | lia | omega)) (j + wd j) (n + 1) _ s _ (ys ++ [repl]) (Nat.le_refl _) hjs S (hF.app (.cons ⟨_, rfl⟩ .nil)) (by simp; (first | lia | omega)) ?_ ?_
        · simp only [List.map_append, List.sum_append, List.map_cons, List.map_nil, List.sum_cons, List.sum_nil]
          have : repl.length ≤ 2 := hrl
          (first | lia | omega)
        · rw [cat_snoc, List.append_assoc]
          exact hcat
      by_cases hlt : p < j
      · show wpAny _ A.in1 (if ((p : Nat) : Int).toNat < m'.start then _ else _) _ _ s
        rw [Int.toNat_natCast, hs, if_pos hlt]
        show wpAny _ A.in1 (mkStr ⟨x.cps.extract p j⟩ >>= _) _ _ s
        refine wpAny_bind (wpAny_mkStr ?_ (by show (x.cps.extract p j).size ≤ _; rw [Array.size_extract]; exact Nat.le_trans (show _ ≤ 100000 by (first | lia | omega)) (by decide)))
        replace S := S.tk (s.toks + 1)
        refine wpAny_bind (upL S (by rw [hF.len]; (first | lia | omega)) ?_); intro s S
        refine tail _ _ _ (ys ++ [⟨x.cps.extract p j⟩]) S (hF.app (.cons ⟨_, rfl⟩ .nil)) (by simp; (first | lia | omega)) ?_ ?_
        · simp only [List.map_append, List.sum_append, List.map_cons, List.map_nil, List.sum_cons, List.sum_nil]
          have : (⟨x.cps.extract p j⟩ : Str).length ≤ j - p := by show (x.cps.extract p j).size ≤ _; rw [Array.size_extract]; (first | lia | omega)
          (first | lia | omega)
        · rw [cat_snoc, List.append_assoc, ← hcat, hout]
      · show wpAny _ A.in1 (if ((p : Nat) : Int).toNat < m'.start then _ else _) _ _ s
        rw [Int.toNat_natCast, hs, if_neg hlt]
        obtain rfl : p = j := by (first | lia | omega)
        refine tail s vs c ys S hF (by (first | lia | omega)) (by (first | lia | omega)) ?_
        rw [← hcat, hout]
        simp
theorem spec_str_call {v : Str} {t : Tok} {Q : Option Value → Shared → Prop} (h : Q none s) : wpAny (model prog w) A (specialOf (.str v t) "__call__") Q E s :=
  wpAny_specialOf (typeIs_str _ _ _) (by rw [typeLookup_type, builtinLookup_eq_fast]; kernel_rfl) h
/-- the pattern's sub, by a plain text -/
theorem sub_call {P : Addr} {code : Array Nat} {x repl : Str} {t tr : Tok} {b : Nat → Bool} {wd : Nat → Nat} {Q : Value → Shared → Prop} (S : St B L m zs s) (hP : Flt.IsPattern B.h P (PatR code)) (hf : Finds code x.cps b wd) (hw : ∀ j, 1 ≤ wd j) (hw2 : ∀ j, j < x.cps.size → j + wd j ≤ x.cps.size)
    (hx : x.cps.size ≤ 100000) (hrl : repl.cps.size ≤ 2) (hb : repl.cps.contains 92 = false) (h : ∀ t' s', St B L m zs s' → Q (.str ⟨(outT b wd repl.cps.toList x.cps 0).toArray⟩ t') s') :
    wpAny (model prog w) A (call (.builtin "re.Pattern.sub") [.ref P, .str repl tr, .str x t]) Q E s := by
  obtain ⟨fs, T, ws, n, h1, _⟩ := id hP
  refine wpAny_call (codeAny_call_builtin slot_pat_sub.plain entry_pat_sub (slot_pat_sub.check _ _ _ _ _ _ _ _ ⟨_, S.base h1, rfl⟩ (args_pat_sub _ _ _) ?_))
  show wpAny _ A.in1 (reNamed "re.Pattern.sub" "sub" ["repl", "string", "count"] 2 [.str repl tr, .str x t] [] >>= _) _ _ s
  refine wpAny_bind (wpAny_of_eq (show reNamed "re.Pattern.sub" "sub" ["repl", "string", "count"] 2 [.str repl tr, .str x t] [] = pure [some (.str repl tr), some (.str x t), none] from rfl) ?_)
  refine wpAny_bind (wpAny_pure ?_)
  refine wpAny_bind (spec_str_call ?_)
  refine wpAny_bind (wpAny_of_eq (show asStr? (.str repl tr) = pure (some repl) from rfl) ?_)
  refine wpAny_bind (wpAny_pure ?_)
  rw [hb]
  refine wpAny_bind (wpAny_pure ?_)
  show wpAny _ A.in1 (holding [Value.str repl tr] (reWholeTarget (.ref P) (.str x t)) >>= _) _ _ s
  refine wpAny_bind (wpAny_holding (wholeT (hP.keeps S.F.keep) ?_))
  show wpAny _ A.in1 (newList [] >>= _) _ _ s
  refine wpAny_bind (nwL S ?_); intro l s S
  refine wpAny_pure ⟨plainId_quiet plain_pat_loop _, ?_⟩
  refine sub_loop hP hf hw hw2 hx hrl ?_ x.cps.size 0 0 0 s [] [] (by (first | lia | omega)) (Nat.zero_le _) S .nil (Nat.zero_le _) (Nat.zero_le _) rfl
  intro t' s' S'
  exact h t' s' S'
end
end Mine
end
section
open PySem PySem.W PyProof.Rows PySem.Calls
set_option maxRecDepth 100000
set_option maxHeartbeats 2000000
namespace Mine
open PySem.Sre PySem.Builtin PySem.Builtin.Re
/-- a mail's letters: dots, a function's letter, an end -/
inductive Mail : List Nat → List (Nat × Nat) → Prop
  | nil : Mail [] []
  | cons {k c e y rs} : 1 ≤ k → (c = 102 ∨ c = 103 ∨ c = 104) → (e = [10] ∨ e = [13] ∨ e = [13, 10]) → Mail y rs → Mail (List.replicate k 46 ++ c :: (e ++ y)) ((k, c) :: rs)
def rowN (r : Nat × Nat) : List Nat := List.replicate r.1 46 ++ [r.2, 13, 10]
def can (rs : List (Nat × Nat)) : List Nat := rs.flatMap rowN
theorem Mail.app {x y rs qs} (h : Mail x rs) (h' : Mail y qs) : Mail (x ++ y) (rs ++ qs) := by
  induction h with
  | nil => exact h'
  | cons h1 h2 h3 _ ih =>
    have := Mail.cons h1 h2 h3 ih
    simpa using this
theorem Mail.head {x rs} (h : Mail x rs) : x = [] ∨ ∃ y, x = 46 :: y := by
  cases h with
  | nil => exact .inl rfl
  | @cons k c e y rs h1 h2 h3 _ =>
    obtain ⟨k, rfl⟩ : ∃ j, k = j + 1 := ⟨k - 1, by (first | lia | omega)⟩
    exact .inr ⟨_, rfl⟩
theorem at_pre {text : Array Nat} {pre y : List Nat} {a : Nat} (h : text.toList = pre ++ a :: y) : text.getD pre.length 0 = a ∧ pre.length < text.size := by
  have hl : text.size = pre.length + (y.length + 1) := by rw [← Array.length_toList, h]; simp
  refine ⟨?_, by (first | lia | omega)⟩
  have e : text.toList[pre.length]? = some a := by rw [h]; simp
  rw [Array.getElem?_toList] at e
  simp [Array.getD, show pre.length < text.size by (first | lia | omega)]
  have := Array.getElem?_eq_some_iff.mp e
  exact this.2
def b2 (text : Array Nat) (j : Nat) : Bool := text.getD j 0 == 10 || text.getD j 0 == 13
def b1 (text : Array Nat) (j : Nat) : Bool := (j == 0 || text.getD (j - 1) 0 == 10) && text.getD j 0 == 46
theorem D2_b (text : Array Nat) (j : Nat) : D2 text j ↔ b2 text j = true := by unfold D2 b2; simp
theorem D1_b (text : Array Nat) (j : Nat) : D1 text j ↔ b1 text j = true := by unfold D1 b1; simp
theorem Found.iff {D D' : Nat → Prop} {wd : Nat → Nat} {s e : Nat} {m : M} (h : Found D wd s e m) (hd : ∀ j, D j ↔ D' j) : Found D' wd s e m := by
  have : D = D' := funext fun j => propext (hd j)
  exact this ▸ h
theorem finds1 (text : Array Nat) (hz : text.size ≤ 100000) : Finds code1 text (b1 text) (fun _ => 1) := fun p hp => by
  obtain ⟨n, m', hn, g, hF⟩ := search1 text p hp
  exact ⟨n, m', by (first | lia | omega), g, hF.iff (D1_b text)⟩
theorem finds2 (text : Array Nat) (hz : text.size ≤ 100000) : Finds code2 text (b2 text) (Wd text) := fun p hp => by
  obtain ⟨n, m', hn, g, hF⟩ := search2 text p hp
  exact ⟨n, m', by (first | lia | omega), g, hF.iff (D2_b text)⟩
theorem Wd1 (text : Array Nat) (j : Nat) : 1 ≤ Wd text j := by unfold Wd; split <;> (first | lia | omega)
theorem Wd2 (text : Array Nat) (j : Nat) (h : j < text.size) : j + Wd text j ≤ text.size := by
  unfold Wd
  by_cases q : text.getD j 0 = 13 ∧ j + 1 < text.size ∧ text.getD (j + 1) 0 = 10
  · rw [if_pos q]; (first | lia | omega)
  · rw [if_neg q]; (first | lia | omega)
theorem len1 (q : List Nat) (a : Nat) : (q ++ [a]).length = q.length + 1 := by simp
theorem out2_skip {text : Array Nat} {r : List Nat} : ∀ (seg pre y : List Nat), text.toList = pre ++ (seg ++ y) → (∀ a ∈ seg, a ≠ 10 ∧ a ≠ 13) →
    outT (b2 text) (Wd text) r text pre.length = seg ++ outT (b2 text) (Wd text) r text (pre ++ seg).length
  | [], pre, y, _, _ => by simp
  | a :: seg, pre, y, h, hn => by
    have ⟨h1, h2⟩ := at_pre (a := a) (y := seg ++ y) (text := text) (pre := pre) (by simpa using h)
    have ha := hn a (.head _)
    rw [outT_step (Wd1 text) h2, if_neg (by unfold b2; rw [h1]; simp [ha]), h1]
    have ih := out2_skip (text := text) (r := r) seg (pre ++ [a]) y (by simpa using h) fun c hc => hn c (.tail _ hc)
    rw [len1] at ih
    rw [ih]
    simp
theorem out2 {text : Array Nat} {x : List Nat} {rs : List (Nat × Nat)} (hM : Mail x rs) : ∀ pre, text.toList = pre ++ x → outT (b2 text) (Wd text) [13, 10] text pre.length = can rs := by
  induction hM with
  | nil =>
    intro pre h
    refine outT_end ?_
    rw [← Array.length_toList, h]; simp
  | @cons k c e y rs h1 h2 h3 hM ih =>
    intro pre h
    have hh := hM.head
    rw [out2_skip (List.replicate k 46 ++ [c]) pre (e ++ y) (by simpa using h) (by
      intro a ha
      rcases List.mem_append.mp ha with ha | ha
      · have := (List.mem_replicate.mp ha).2; (first | lia | omega)
      · have := List.mem_singleton.mp ha; (first | lia | omega))]
    generalize hq : pre ++ (List.replicate k 46 ++ [c]) = q
    have ht : text.toList = q ++ (e ++ y) := by rw [h, ← hq]; simp
    have e1 : outT (b2 text) (Wd text) [13, 10] text q.length = [13, 10] ++ outT (b2 text) (Wd text) [13, 10] text (q ++ e).length := by
      rcases h3 with rfl | rfl | rfl
      · have ⟨g1, g2⟩ := at_pre (a := 10) (y := y) (text := text) (pre := q) (by simpa using ht)
        have hw : Wd text q.length = 1 := by unfold Wd; rw [g1, if_neg (by (first | lia | omega))]
        rw [outT_step (Wd1 text) g2, if_pos (by unfold b2; rw [g1]; simp), hw]
        simp
      · have ⟨g1, g2⟩ := at_pre (a := 13) (y := y) (text := text) (pre := q) (by simpa using ht)
        have hw : Wd text q.length = 1 := by
          unfold Wd
          rw [if_neg ?_]
          rintro ⟨_, h5, h6⟩
          rcases hh with rfl | ⟨z, rfl⟩
          · rw [← Array.length_toList, ht] at h5; simp at h5
          · have ⟨g3, _⟩ := at_pre (a := 46) (y := z) (text := text) (pre := q ++ [13]) (by simpa using ht)
            rw [len1] at g3
            (first | lia | omega)
        rw [outT_step (Wd1 text) g2, if_pos (by unfold b2; rw [g1]; simp), hw]
        simp
      · have ⟨g1, g2⟩ := at_pre (a := 13) (y := 10 :: y) (text := text) (pre := q) (by simpa using ht)
        have ⟨g3, g4⟩ := at_pre (a := 10) (y := y) (text := text) (pre := q ++ [13]) (by simpa using ht)
        rw [len1] at g3 g4
        have hw : Wd text q.length = 2 := by
          unfold Wd
          rw [if_pos ⟨g1, g4, g3⟩]
        rw [outT_step (Wd1 text) g2, if_pos (by unfold b2; rw [g1]; simp), hw]
        simp
    rw [e1, ih (q ++ e) (by rw [ht]; simp)]
    simp [can, rowN]
theorem out1_skip {text : Array Nat} {r : List Nat} : ∀ (seg pre y : List Nat), text.toList = pre ++ (seg ++ y) → pre ≠ [] → (∀ z d, seg = z ++ [d] → True) → pre.getLast? ≠ some 10 → (∀ a ∈ seg.dropLast, a ≠ 10) →
    outT (b1 text) (fun _ => 1) r text pre.length = seg ++ outT (b1 text) (fun _ => 1) r text (pre ++ seg).length
  | [], pre, y, _, _, _, _, _ => by simp
  | a :: seg, pre, y, h, hne, _, hl, hn => by
    have ⟨h1, h2⟩ := at_pre (a := a) (y := seg ++ y) (text := text) (pre := pre) (by simpa using h)
    have hb : b1 text pre.length = false := by
      unfold b1
      obtain ⟨z, d, rfl⟩ : ∃ z d, pre = z ++ [d] := ⟨_, _, (List.dropLast_concat_getLast hne).symm⟩
      have ⟨h3, _⟩ := at_pre (a := d) (y := a :: (seg ++ y)) (text := text) (pre := z) (by simpa using h)
      have hd : d ≠ 10 := fun e => hl (by simp [e])
      rw [show (z ++ [d]).length - 1 = z.length by simp, h3]
      simp [hd]
    rw [outT_step (fun _ => Nat.le_refl 1) h2, hb, if_neg (by simp), h1]
    cases seg with
    | nil => simp
    | cons a2 seg =>
      have ih := out1_skip (text := text) (r := r) (a2 :: seg) (pre ++ [a]) y (by simpa using h) (by simp) (fun _ _ _ => trivial) (by simpa using hn a (by simp)) fun c hc => hn c (by simp [hc])
      rw [len1] at ih
      rw [ih]
      simp
def upR (r : Nat × Nat) : Nat × Nat := (r.1 + 1, r.2)
theorem out1 {text : Array Nat} : ∀ (rs : List (Nat × Nat)), (∀ r ∈ rs, 1 ≤ r.1 ∧ (r.2 = 102 ∨ r.2 = 103 ∨ r.2 = 104)) → ∀ pre, text.toList = pre ++ can rs → (pre = [] ∨ pre.getLast? = some 10) →
    outT (b1 text) (fun _ => 1) [46, 46] text pre.length = can (rs.map upR)
  | [], _, pre, h, _ => by
    refine outT_end ?_
    rw [← Array.length_toList, h]; simp [can]
  | (k, c) :: rs, hr, pre, h, hp => by
    have ⟨hk, hc⟩ := hr (k, c) (.head _)
    simp only at hk hc
    obtain ⟨k, rfl⟩ : ∃ j, k = j + 1 := ⟨k - 1, by (first | lia | omega)⟩
    have hcan : can ((k + 1, c) :: rs) = 46 :: (List.replicate k 46 ++ [c, 13, 10] ++ can rs) := by simp [can, rowN, List.replicate_succ]
    rw [hcan] at h
    have ⟨h1, h2⟩ := at_pre h
    have hb : b1 text pre.length = true := by
      unfold b1
      rw [h1]
      rcases hp with rfl | hp
      · simp
      · obtain ⟨z, d, rfl⟩ : ∃ z d, pre = z ++ [d] := ⟨_, _, (List.dropLast_concat_getLast (by rintro rfl; simp at hp)).symm⟩
        have ⟨h3, _⟩ := at_pre (a := d) (text := text) (pre := z) (by simpa using h)
        have hd : d = 10 := by simpa using hp
        rw [show (z ++ [d]).length - 1 = z.length by simp, h3, hd]
        simp
    rw [outT_step (fun _ => Nat.le_refl 1) h2, if_pos hb]
    have hs := out1_skip (text := text) (r := [46, 46]) (List.replicate k 46 ++ [c, 13, 10]) (pre ++ [46]) (can rs) (by simpa using h) (by simp) (fun _ _ _ => trivial) (by simp) (by
      intro a ha
      rw [show List.replicate k 46 ++ [c, 13, 10] = (List.replicate k 46 ++ [c, 13]) ++ [10] by simp, List.dropLast_concat] at ha
      simp at ha
      (first | lia | omega))
    rw [len1] at hs
    rw [hs, out1 rs (fun r h => hr r (.tail _ h)) (pre ++ [46] ++ (List.replicate k 46 ++ [c, 13, 10])) (by simpa using h) (.inr (by rw [show pre ++ [46] ++ (List.replicate k 46 ++ [c, 13, 10]) = (pre ++ [46] ++ (List.replicate k 46 ++ [c, 13])) ++ [10] by simp, List.getLast?_concat]))]
    simp [can, rowN, upR, List.replicate_succ]
theorem Mail.rows {x rs} (h : Mail x rs) : ∀ r ∈ rs, 1 ≤ r.1 ∧ (r.2 = 102 ∨ r.2 = 103 ∨ r.2 = 104) := by
  induction h with
  | nil => exact fun _ h => nomatch h
  | cons h1 h2 _ _ ih =>
    intro r hr
    rcases List.mem_cons.mp hr with rfl | hr
    · exact ⟨h1, h2⟩
    · exact ih r hr
theorem Mail.can : ∀ {rs : List (Nat × Nat)}, (∀ r ∈ rs, 1 ≤ r.1 ∧ (r.2 = 102 ∨ r.2 = 103 ∨ r.2 = 104)) → Mail (can rs) rs
  | [], _ => .nil
  | (k, c) :: rs, h => by
    have h0 := h (k, c) (.head _)
    have := Mail.cons (e := [13, 10]) h0.1 h0.2 (.inr (.inr rfl)) (Mail.can fun r hr => h r (.tail _ hr))
    simpa [Mine.can, rowN] using this
theorem upR_rows {rs : List (Nat × Nat)} (h : ∀ r ∈ rs, 1 ≤ r.1 ∧ (r.2 = 102 ∨ r.2 = 103 ∨ r.2 = 104)) : ∀ r ∈ rs.map upR, 1 ≤ r.1 ∧ (r.2 = 102 ∨ r.2 = 103 ∨ r.2 = 104) := by
  intro r hr
  obtain ⟨q, hq, rfl⟩ := List.mem_map.mp hr
  have := h q hq
  exact ⟨by show 1 ≤ q.1 + 1; (first | lia | omega), this.2⟩
end Mine
end
section
open PySem PySem.W PyProof.Rows PySem.Calls
set_option maxRecDepth 100000
set_option maxHeartbeats 2000000
namespace Mine
section
variable {w : World} {A : Around} {E : Value → Shared → Prop} {s : Shared} {B : Bs} {L : Addr} {m mg : Str → Option Value} {zs : List (Addr × Obj)} {env : Env}
/-- the method sub of a pattern -/
theorem gmPat {P : Addr} {code : Array Nat} {pl : Sem Bool} {pos : Pos} {e e2 : Expr} {Q : Value → Shared → Prop} (hP : Flt.IsPattern s.heap P (PatR code))
    (h : wpAny (model prog w) A (eval e env) (fun v s₁ => wpAny (model prog w) A (eval e2 env) (fun v2 s₂ => wpAny (model prog w) A (call (.builtin "re.Pattern.sub") [.ref P, v, v2]) Q E s₂) E s₁) E s)
    (hs : starEach [e, e2] env = [(false, eval e env), (false, eval e2 env)] := by rfl) :
    wpAny (model prog w) A (getMethod (.ref P) "sub" pl) (fun fx s₂ => wpAny (model prog w) A (callWith pos fx.1 fx.2 (backTo pos (starEach [e, e2] env)) []) Q E s₂) E s := by
  obtain ⟨fs, T, ws, n, h1, _⟩ := hP
  refine getMethod_builtin ⟨_, h1, rfl⟩ plainAttrs_pat slot_pat_sub type_pat_sub (fun a e => by cases e; exact ⟨_, h1, rfl⟩) ?_
  rw [hs]
  exact callWith_builtin rfl (evalArgs_plain (spliced_cons (wpAny_mono h (fun v1 s₂ h2 => spliced_cons (wpAny_mono h2 (fun v2 s₃ h3 => spliced_nil h3) fun _ _ x => x)) fun _ _ x => x)))
end
theorem can_len : ∀ {rs : List (Nat × Nat)}, (∀ r ∈ rs, r.1 ≤ 100) → (can rs).length ≤ 103 * rs.length
  | [], _ => by simp [can]
  | r :: rs, h => by
    have h1 := h r (.head _)
    have h2 := can_len fun q hq => h q (.tail _ hq)
    unfold can at h2 ⊢
    simp only [List.flatMap_cons, List.length_append, rowN, List.length_replicate, List.length_cons, List.length_nil] at h2 ⊢
    (first | lia | omega)
theorem Mail.len {x rs} (h : Mail x rs) (hb : ∀ r ∈ rs, r.1 ≤ 100) : x.length ≤ 103 * rs.length := by
  induction h with
  | nil => simp
  | @cons k c e y rs h1 h2 h3 _ ih =>
    have h4 := hb (k, c) (.head _)
    have h5 := ih fun q hq => hb q (.tail _ hq)
    have h6 : e.length ≤ 2 := by rcases h3 with rfl | rfl | rfl <;> simp
    simp only [List.length_append, List.length_replicate, List.length_cons] at h4 ⊢
    (first | lia | omega)
def CRLF : Str := ⟨#[13, 10]⟩
/-- the two patterns and the line end, as globals -/
structure QEnv (mg : Str → Option Value) (h : Heap) (P1 P2 : Addr) : Prop where
  p1 : mg "_twin_re_1" = some (.ref P1)
  p2 : mg "_twin_re_2" = some (.ref P2)
  cr : ∃ t, mg "CRLF" = some (.str CRLF t)
  i1 : Flt.IsPattern h P1 (PatR code1)
  i2 : Flt.IsPattern h P2 (PatR code2)
theorem QEnv.keeps {mg h h' P1 P2} (x : QEnv mg h P1 P2) (k : ∀ b o, h.get? b = some o → h'.get? b = some o) : QEnv mg h' P1 P2 := ⟨x.p1, x.p2, x.cr, x.i1.keeps k, x.i2.keeps k⟩
section
variable {w : World} {A : Around} {s₀ : Shared} {mg : Str → Option Value}
theorem quote_spec {f P1 P2 : Addr} {x : Str} {t : Tok} {rs : List (Nat × Nat)} (GL : Gl mg s₀.heap) (Z : QEnv mg s₀.heap P1 P2) (hfn : Fn s₀.heap f "quotedata" 13 .none .none) (hA : Rm A 1)
    (hM : Mail x.cps.toList rs) (hb : ∀ r ∈ rs, r.1 ≤ 99) (hl : rs.length ≤ 100) :
    Tells w A (.ref f) ⟨[.str x t], []⟩ (fun v _ => ∃ t', v = .str ⟨(can (rs.map upR)).toArray⟩ t') s₀ := by
  obtain ⟨tc, hcr⟩ := Z.cr
  refine callDef0 [("data", .str x t)] hfn GL.lim hA (fun _ _ _ _ _ => BindsTo.of_eq rfl) ?_
  intro A' L cd s hA' S
  refine sRet ?_
  refine meth ?_
  refine nmG S GL Z.p1 ?_
  refine gmPat (Z.i1.keeps S.F.keep) ?_
  refine cS S ?_; intro t1 s S
  refine meth ?_
  refine nmG S GL Z.p2 ?_
  refine gmPat (Z.i2.keeps S.F.keep) ?_
  refine nmG S GL hcr ?_
  refine nmL S rfl ?_
  have hx : x.cps.size ≤ 100000 := by
    have := hM.len fun r hr => Nat.le_trans (hb r hr) (by decide)
    rw [Array.length_toList] at this
    (first | lia | omega)
  refine sub_call S Z.i2 (finds2 _ hx) (Wd1 _) (Wd2 _) hx (by decide) (by decide +kernel) ?_; intro t2 s S
  have e2 : outT (b2 x.cps) (Wd x.cps) CRLF.cps.toList x.cps 0 = can rs := out2 hM [] rfl
  rw [e2]
  have hy : (can rs).toArray.size ≤ 100000 := by
    have := can_len fun r hr => Nat.le_trans (hb r hr) (show 99 ≤ 100 by decide)
    rw [List.size_toArray]
    (first | lia | omega)
  refine sub_call S Z.i1 (finds1 _ hy) (fun _ => Nat.le_refl 1) (fun _ h => h) hy (by decide) (by decide +kernel) ?_; intro t3 s S
  refine ⟨_, _, rfl, S.grows, t3, ?_⟩
  have e1 := out1 (text := (can rs).toArray) rs hM.rows [] rfl (.inl rfl)
  rw [show (Str.ofString "..").cps.toList = [46, 46] by decide +kernel]
  exact congrArg (fun z : List Nat => Value.str ⟨z.toArray⟩ t3) e1
end
end Mine
end
section
open PySem PySem.W PyProof.Rows PySem.Calls
set_option maxRecDepth 100000
set_option maxHeartbeats 2000000
namespace Mine
section
variable {w : World} {A : Around} {E : Value → Shared → Prop} {s : Shared} {B : Bs} {L : Addr} {m mg : Str → Option Value} {zs : List (Addr × Obj)} {env : Env}
/-- the last item is taken off -/
theorem popL {l : Addr} {p : List Value} {y : Value} {n : Nat} {zs' : List (Addr × Obj)} {Q : Value → Shared → Prop} (S : St B L m zs s) (U : Up l (lob (p ++ [y]) n) (lob p (n + 1)) zs zs') (hz : p.length ≤ 10000)
    (h : ∀ s', St B L m zs' s' → Q y s') : wpAny (model prog w) A (call (.builtin "list.pop") [.ref l]) Q E s := by
  refine kl_pop (its := (p ++ [y]).toArray) (p := p) (y := y) S.F S.N ?_ (U.toUpd S.nd) (by simp; exact Nat.le_trans (show _ ≤ 10001 by (first | lia | omega)) (by decide)) fun h' F' N' => h _ (S.reU (t := s.toks) U F' N')
  have : ∀ p : List Value, kl_last (p ++ [y]) = some (p, y) := by
    intro p
    induction p with
    | nil => rfl
    | cons a p ih =>
      cases p with
      | nil => rfl
      | cons b p =>
        show kl_last (a :: b :: (p ++ [y])) = _
        unfold kl_last
        rw [show b :: (p ++ [y]) = (b :: p) ++ [y] from rfl, ih]
  rw [List.toList_toArray]
  exact this p
/-- a list repeated -/
theorem mulL {l : Addr} {vs : List Value} {x : Int} {u : Tok} {Q : Value → Shared → Prop} (S : St B L m zs s) (hl : s.heap.IsList l vs.toArray) (hlo : -100 ≤ x) (hhi : x ≤ 100) (hv : vs.length ≤ 1)
    (h : ∀ D s', St B L m ((D, lob (List.replicate x.toNat vs).flatten 0) :: zs) s' → Q (.ref D) s') : wpAny (model prog w) A (binaryOp .Mult (.ref l) (.int x u)) Q E s := by
  have hsz : vs.length * x.toNat ≤ 256 := Nat.le_trans (Nat.mul_le_mul hv (show x.toNat ≤ 100 by (first | lia | omega))) (by decide)
  refine KMa.mul S.F S.N hl (by (first | lia | omega)) (by (first | lia | omega)) hsz rfl fun D h' F' N' hlt => h D _ ?_
  refine (⟨F', N', ?_, S.G, S.O⟩ : St B L m ((D, lob (List.replicate x.toNat vs).flatten 0) :: zs) { s with heap := h', toks := s.toks })
  rw [List.map_cons, List.nodup_cons]
  refine ⟨fun hm => ?_, S.nd⟩
  obtain ⟨p, hp, e⟩ := List.mem_map.mp hm
  have := hlt p hp
  simp only at e
  rw [e] at this
  exact absurd this (Nat.lt_irrefl _)
theorem updL {l : Addr} {vs us : List Value} {n j : Nat} {v : Value} {zs' : List (Addr × Obj)} (S : St B L m zs s) (U : Up l (lob vs n) (lob us n) zs zs') (e : vs.set j v = us) :
    St B L m zs' { s with heap := s.heap.update l (Obj.mapSeq (·.setIfInBounds j v)) } := by
  refine S.upd U (Heap.SameBut.update ..) ?_ s.toks
  have := PySem.IsL.update (S.get U.mem) (·.setIfInBounds j v)
  rw [if_pos (by simp)] at this
  subst e
  rw [show (vs.toArray.setIfInBounds j v) = (vs.set j v).toArray by simp] at this
  exact this
/-- an item of a list is set -/
theorem setP {l : Addr} {vs us : List Value} {n : Nat} {k : Int} {t : Tok} {v : Value} {zs' : List (Addr × Obj)} {Q : Unit → Shared → Prop} (S : St B L m zs s) (h0 : 0 ≤ k) (h1 : k < vs.length) (hz : vs.length ≤ 10000) (U : Up l (lob vs n) (lob us n) zs zs') (e : vs.set k.toNat v = us)
    (h : ∀ s', St B L m zs' s' → Q () s') : wpAny (model prog w) A (setItem (.ref l) (.int k t) v) Q E s :=
  ki_setAt (S.get U.mem) h0 (by (first | lia | omega)) (by simp; (first | lia | omega)) (h _ (updL S U e))
/-- the last item is set -/
theorem setN {l : Addr} {vs us : List Value} {n : Nat} {t : Tok} {v : Value} {zs' : List (Addr × Obj)} {Q : Unit → Shared → Prop} (S : St B L m zs s) (h1 : 1 ≤ vs.length) (hz : vs.length ≤ 10000) (U : Up l (lob vs n) (lob us n) zs zs') (e : vs.set (vs.length - 1) v = us)
    (h : ∀ s', St B L m zs' s' → Q () s') : wpAny (model prog w) A (setItem (.ref l) (.int (-1) t) v) Q E s := by
  have ho := S.get U.mem
  have hl : s.heap.IsList l vs.toArray := ⟨_, ho, rfl, n, rfl⟩
  unfold setItem
  try with_reducible refine wpAny_holding ?_
  first | refine wpAny_bind (wpAny_pure ?_) | skip
  refine wpAny_bind (wpAny_sequenceKey hl.typeIs (by decide) ?_)
  refine wpAny_bind (wpAny_callSpecial?_slot (name := Str.ofString "__setitem__") hl.typeIs slot_list_setitem
    (wpAny_call_entry slot_list_setitem hl.typeIs entry_list_setitem ?_ (args_list_setitem _ _ _)))
  show wpAny _ _ (Builtin.List.listSubscript? (.int (-1) t) >>= _) _ _ s
  refine wpAny_bind (wpAny_listSubscript_int (fitsIndex_neg (by decide) (by decide)) ?_)
  have hidx : seqIndex? (Int.negSucc 0) vs.toArray.size = some (vs.length - 1) := by
    rw [seqIndex_neg (k := Int.negSucc 0) (by decide) (by simp; (first | lia | omega))]
    simp
    (first | lia | omega)
  have hx : vs.toArray[vs.length - 1]? = some (vs[vs.length - 1]'(by (first | lia | omega))) := by simp
  show wpAny _ _ ((Builtin.List.listItems (.ref l) >>= fun xs => pure ((seqIndex? (Int.negSucc 0) xs.size).bind fun i => xs[i]?.map (i, ·))) >>= _) _ _ s
  refine wpAny_bind (wpAny_bind ?_)
  show wpAny _ _ (seqItems? (.ref l) >>= _) _ _ s
  refine wpAny_bind (wpAny_seqItems ho rfl (wpAny_pure (wpAny_pure ?_)))
  rw [hidx]
  simp only [Option.bind_some, hx, Option.map_some]
  show wpAny _ _ (setSeqItemAt l (vs.length - 1) v >>= _) _ _ s
  refine wpAny_bind (wpAny_setSeqItemAt ho rfl ?_)
  have S' := updL S U e
  first
    | exact wpAny_bind (wpAny_pure (wpAny_pure ⟨.none, rfl, wpAny_pure (h _ S')⟩))
    | exact wpAny_pure ⟨.none, rfl, wpAny_pure (h _ S')⟩
/-- a text cut at another -/
theorem splS {x y : Str} {t u : Tok} {Q : Value → Shared → Prop} (S : St B L m zs s) (hy : (y.length == 0) = false) (hx : x.length ≤ 100000) (hp : (Builtin.Str.partsBetween x (Builtin.Str.occurrences x y 0 x.length (x.length + 1)) y.length).length ≤ 100000)
    (h : ∀ D vs s', Fa StrV vs (Txt.split x y) → St B L m zs s' → s'.heap.IsList D vs.toArray → Q (.ref D) s') : wpAny (model prog w) A (call (.builtin "str.split") [.str x t, .str y u]) Q E s := by
  refine SCG.split1 (Fm := fun s' => St B L m zs s') (fun s' ob k S' => S'.kept (fun b o e => Heap.get?_push_of_some _ e) k) S hy ?_ (Nat.le_trans hx (by decide)) (Nat.le_trans hp (by decide))
  intro D l s' hl S' hD
  refine h D _ s' ?_ S' hD
  rw [← hl]
  clear hl hD
  induction l with
  | nil => exact .nil
  | cons a l ih => exact .cons ⟨_, rfl⟩ ih
/-- two texts glued -/
theorem addS {x y : Str} {t u : Tok} {Q : Value → Shared → Prop} (S : St B L m zs s) (hz : x.length + y.length ≤ 100000) (h : ∀ t' s', St B L m zs s' → Q (.str (x ++ y) t') s') : wpAny (model prog w) A (binaryOp .Add (.str x t) (.str y u)) Q E s :=
  PyProof.Rows.add_str (fun t' k => h t' _ (S.tk k)) (Nat.le_trans hz (by decide))
/-- an item of a list is set: the statement -/
theorem sSet {l i value : Expr} {p' pos : Pos} {rest : List Stmt} {Q : Flow → Shared → Prop}
    (h : wpAny (model prog w) A (eval value env) (fun v s₁ => wpAny (model prog w) A (eval l env) (fun ov s₂ => wpAny (model prog w) A (eval i env) (fun iv s₃ => wpAny (model prog w) A (setItem ov iv v) (fun _ s₄ => wpAny (model prog w) A (execs rest env) Q E s₄) E s₃) E s₂) E s₁) E s)
    (hs : swapsWith value (some (.Subscript l i p')) pos.line env = pure false := by rfl) : wpAny (model prog w) A (execs (.Assign [.Subscript l i p'] value pos :: rest) env) Q E s := sSub h hs
end
end Mine
end
section
open PySem PySem.W PyProof.Rows PySem.Calls
set_option maxRecDepth 100000
set_option maxHeartbeats 2000000
namespace Mine
open PySem.Builtin PySem.Builtin.Str PySem.StrLaws
def cutsF : Nat → List (Nat × Nat) → List Nat
  | _, [] => []
  | p, (k, _) :: rs => (p + k + 1) :: cutsF (p + k + 3) rs
def lineN (r : Nat × Nat) : List Nat := List.replicate r.1 46 ++ [r.2]
def OkRs (rs : List (Nat × Nat)) : Prop := ∀ r ∈ rs, 1 ≤ r.1 ∧ (r.2 = 102 ∨ r.2 = 103 ∨ r.2 = 104)
theorem occ_skip (x y : Str) (hi lim : Nat) : ∀ (k p q : Nat) (st : Array Nat × Nat), (∀ i, p ≤ i → i < p + k → ¬ (st.2 ≤ i ∧ subAt x y i = true)) →
    forIn (List.range' p (k + q)) st (occBody x y hi lim) = forIn (List.range' (p + k) q) st (occBody x y hi lim)
  | 0, p, q, st, _ => by simp
  | k + 1, p, q, st, h => by
    rw [show k + 1 + q = (k + q) + 1 by (first | lia | omega), List.range'_succ, List.forIn_cons]
    have e : occBody x y hi lim p st = pure (.yield (st.1, st.2)) := by
      unfold occBody
      rw [if_neg fun c => h p (Nat.le_refl _) (by (first | lia | omega)) ⟨c.1.1.2, c.2⟩]
    rw [e]
    show forIn (List.range' (p + 1) (k + q)) st (occBody x y hi lim) = _
    rw [occ_skip x y hi lim k (p + 1) q st fun i h1 h2 => h i (by (first | lia | omega)) (by (first | lia | omega)), show p + 1 + k = p + (k + 1) by (first | lia | omega)]
theorem occ_hit (x y : Str) (hi lim : Nat) (p q : Nat) (st : Array Nat × Nat) (h : ((st.1.size < lim ∧ st.2 ≤ p) ∧ p + y.length ≤ hi) ∧ subAt x y p = true) :
    forIn (List.range' p (q + 1)) st (occBody x y hi lim) = forIn (List.range' (p + 1) q) (st.1.push p, p + y.length) (occBody x y hi lim) := by
  rw [List.range'_succ, List.forIn_cons]
  have e : occBody x y hi lim p st = pure (.yield (st.1.push p, p + y.length)) := by
    unfold occBody
    rw [if_pos h]
  rw [e]
  rfl
theorem subAt_no {x : Str} {pre y : List Nat} {a : Nat} (h : x.cps.toList = pre ++ a :: y) (ha : a ≠ 13) : ¬ subAt x CRLF pre.length = true := by
  rw [subAt_eq, h]
  rw [List.drop_left' rfl]
  intro e
  have := eq_of_beq e
  rw [show CRLF.length = 2 from rfl, show CRLF.cps.toList = [13, 10] from rfl] at this
  simp only [List.take_succ_cons, List.cons.injEq] at this
  exact ha this.1
theorem subAt_yes {x : Str} {pre y : List Nat} (h : x.cps.toList = pre ++ 13 :: 10 :: y) : subAt x CRLF pre.length = true := by
  rw [subAt_eq, h]
  rw [List.drop_left' rfl]
  rfl
theorem dots_at {x : Str} {pre y : List Nat} {k c : Nat} (hc : c = 102 ∨ c = 103 ∨ c = 104) (h : x.cps.toList = pre ++ (List.replicate k 46 ++ c :: y)) : ∀ i, pre.length ≤ i → i < pre.length + (k + 1) → ¬ subAt x CRLF i = true := by
  intro i h1 h2
  obtain ⟨j, rfl⟩ : ∃ j, i = pre.length + j := ⟨i - pre.length, by (first | lia | omega)⟩
  by_cases hj : j = k
  · subst hj
    have := subAt_no (x := x) (pre := pre ++ List.replicate j 46) (a := c) (y := y) (by simpa using h) (by (first | lia | omega))
    simpa using this
  · have e : List.replicate k 46 = List.replicate j 46 ++ 46 :: List.replicate (k - j - 1) 46 := by
      rw [show (46 :: List.replicate (k - j - 1) 46 : List Nat) = List.replicate (k - j) 46 by
        rw [show k - j = (k - j - 1) + 1 by (first | lia | omega), List.replicate_succ]; simp, List.replicate_append_replicate]
      congr 1
      (first | lia | omega)
    rw [e] at h
    have := subAt_no (x := x) (pre := pre ++ List.replicate j 46) (a := 46) (y := List.replicate (k - j - 1) 46 ++ c :: y) (by simpa using h) (by (first | lia | omega))
    simpa using this
theorem lenA (pre : List Nat) (k c : Nat) : (pre ++ (List.replicate k 46 ++ [c])).length = pre.length + (k + 1) := by simp
theorem lenB (pre : List Nat) (k c : Nat) : (pre ++ (List.replicate k 46 ++ [c, 13, 10])).length = pre.length + k + 3 := by simp; (first | lia | omega)
theorem occ_run {x : Str} : ∀ (rs : List (Nat × Nat)) (pre : List Nat) (found : Array Nat), OkRs rs → x.cps.toList = pre ++ can rs → found.size ≤ pre.length →
    (forIn (List.range' pre.length (x.length + 1 - pre.length)) (found, pre.length) (occBody x CRLF x.length (x.length + 1))).run.fst.toList = found.toList ++ cutsF pre.length rs
  | [], pre, found, _, h, _ => by
    have hx : x.length = pre.length := by
      show x.cps.size = _
      rw [← Array.length_toList, h]; simp [can]
    rw [hx, show pre.length + 1 - pre.length = 1 + 0 by (first | lia | omega), occ_skip _ _ _ _ 1 _ _ _ ?_]
    · simp [cutsF]
    · intro i h1 h2 hs
      obtain rfl : i = pre.length := by (first | lia | omega)
      have := hs.2
      rw [subAt_eq, h] at this
      simp [can] at this
      exact absurd this (by decide)
  | (k, c) :: rs, pre, found, hr, h, hf => by
    have h0 := hr (k, c) (.head _)
    simp only at h0
    have hh : x.cps.toList = pre ++ (List.replicate k 46 ++ c :: 13 :: 10 :: can rs) := by rw [h]; simp [can, rowN]
    have hx : x.length = pre.length + k + 3 + (can rs).length := by
      show x.cps.size = _
      rw [← Array.length_toList, hh]
      simp
      (first | lia | omega)
    have hd := dots_at h0.2 hh
    rw [show x.length + 1 - pre.length = (k + 1) + ((1 + (can rs).length) + 1 + 1) by (first | lia | omega)]
    rw [occ_skip _ _ _ _ (k + 1) _ _ _ fun i h1 h2 hs => hd i h1 h2 hs.2]
    have hy := subAt_yes (x := x) (pre := pre ++ (List.replicate k 46 ++ [c])) (y := can rs) (by simpa using hh)
    rw [lenA] at hy
    have h2 : CRLF.length = 2 := rfl
    rw [occ_hit _ _ _ _ _ _ _ ⟨⟨⟨by show found.size < _; (first | lia | omega), by show pre.length ≤ _; (first | lia | omega)⟩, by rw [h2]; (first | lia | omega)⟩, hy⟩]
    rw [show (1 + (can rs).length) + 1 = 1 + (1 + (can rs).length) by (first | lia | omega)]
    rw [occ_skip _ _ _ _ 1 _ _ _ fun i h3 h4 hs => by
      have := hs.1
      simp only [h2] at this
      (first | lia | omega)]
    have ih := occ_run (x := x) rs (pre ++ (List.replicate k 46 ++ [c, 13, 10])) (found.push (pre.length + (k + 1))) (fun r hm => hr r (.tail _ hm)) (by rw [hh]; simp) (by simp; (first | lia | omega))
    have hl : (pre ++ (List.replicate k 46 ++ [c, 13, 10])).length = pre.length + (k + 1) + 1 + 1 := by simp; (first | lia | omega)
    rw [hl] at ih
    rw [show x.length + 1 - (pre.length + (k + 1) + 1 + 1) = 1 + (can rs).length by (first | lia | omega)] at ih
    simp only [h2]
    rw [show pre.length + (k + 1) + 2 = pre.length + (k + 1) + 1 + 1 by (first | lia | omega), ih]
    simp only [Array.toList_push, List.append_assoc, List.singleton_append, cutsF]
    rw [show pre.length + (k + 1) = pre.length + k + 1 by (first | lia | omega), show pre.length + k + 1 + 1 + 1 = pre.length + k + 3 by (first | lia | omega)]
theorem parts_run {x : Str} : ∀ (rs : List (Nat × Nat)) (pre : List Nat), x.cps.toList = pre ++ can rs → partsFrom x 2 pre.length (cutsF pre.length rs) = rs.map (fun r => (⟨(lineN r).toArray⟩ : Str)) ++ [⟨#[]⟩]
  | [], pre, h => by
    have hx : x.length = pre.length := by
      show x.cps.size = _
      rw [← Array.length_toList, h]; simp [can]
    show [strSub x pre.length x.length] = [⟨#[]⟩]
    congr 1
    apply Str.ext'
    apply Array.toList_inj.mp
    rw [strSub_toList, hx, Nat.sub_self]
    rfl
  | (k, c) :: rs, pre, h => by
    have hh : x.cps.toList = pre ++ ((List.replicate k 46 ++ [c]) ++ 13 :: 10 :: can rs) := by rw [h]; simp [can, rowN]
    show strSub x pre.length (pre.length + k + 1) :: partsFrom x 2 (pre.length + k + 1 + 2) (cutsF (pre.length + k + 3) rs) = _
    have ih := parts_run (x := x) rs (pre ++ (List.replicate k 46 ++ [c, 13, 10])) (by rw [hh]; simp)
    rw [lenB] at ih
    rw [show pre.length + k + 1 + 2 = pre.length + k + 3 by (first | lia | omega), ih]
    show _ = (⟨(lineN (k, c)).toArray⟩ : Str) :: (rs.map _ ++ [_])
    congr 1
    apply Str.ext'
    apply Array.toList_inj.mp
    rw [strSub_toList, hh, List.drop_left' rfl, show pre.length + k + 1 - pre.length = (List.replicate k 46 ++ [c]).length by simp; (first | lia | omega), List.take_left' rfl]
    rfl
theorem parts_can {rs : List (Nat × Nat)} (hr : OkRs rs) : partsBetween ⟨(can rs).toArray⟩ (occurrences ⟨(can rs).toArray⟩ CRLF 0 (⟨(can rs).toArray⟩ : Str).length ((⟨(can rs).toArray⟩ : Str).length + 1)) CRLF.length = rs.map (fun r => (⟨(lineN r).toArray⟩ : Str)) ++ [⟨#[]⟩] := by
  have h1 := occ_run (x := ⟨(can rs).toArray⟩) rs [] #[] hr rfl (Nat.le_refl _)
  rw [occ_eq, partsBetween_eq]
  simp only [List.length_nil] at h1
  rw [h1]
  exact parts_run (x := ⟨(can rs).toArray⟩) rs [] rfl
theorem split_can {rs : List (Nat × Nat)} (hr : OkRs rs) (hne : rs ≠ []) : Txt.split ⟨(can rs).toArray⟩ CRLF = rs.map (fun r => (⟨(lineN r).toArray⟩ : Str)) ++ [⟨#[]⟩] := by
  have hlen : 3 ≤ (⟨(can rs).toArray⟩ : Str).length := by
    show 3 ≤ (can rs).toArray.size
    cases rs with
    | nil => exact absurd rfl hne
    | cons r rs => simp [can, rowN]; (first | lia | omega)
  have hk : Builtin.Str.strKind CRLF = 1 := by decide +kernel
  have hk2 : 1 ≤ Builtin.Str.strKind ⟨(can rs).toArray⟩ := by unfold Builtin.Str.strKind; split <;> (try split) <;> decide
  unfold Txt.split
  rw [if_neg (by rw [hk, show CRLF.length = 2 from rfl]; simp; (first | lia | omega))]
  have h1 := occ_run (x := ⟨(can rs).toArray⟩) rs [] #[] hr rfl (Nat.le_refl _)
  have h2 : (occurrences ⟨(can rs).toArray⟩ CRLF 0 (⟨(can rs).toArray⟩ : Str).length ((⟨(can rs).toArray⟩ : Str).length + 1)).isEmpty = false := by
    rw [occ_eq]
    simp only [List.length_nil] at h1
    rw [h1]
    cases rs with
    | nil => exact absurd rfl hne
    | cons r rs => rfl
  rw [if_neg (by rw [h2]; simp)]
  exact parts_can hr
end Mine
end
section
open PySem PySem.W PyProof.Rows PySem.Calls
set_option maxRecDepth 100000
set_option maxHeartbeats 1000000
namespace Mine
abbrev Rws := List (Nat × Nat)
def addR (d : Nat) (r : Nat × Nat) : Nat × Nat := (r.1 + d, r.2)
def flatF : Nat → List Rws → Rws
  | _, [] => []
  | j, rs :: r => rs.map (addR (j + 1)) ++ flatF (j + 1) r
theorem flatF_app : ∀ (A B : List Rws) (j : Nat), flatF j (A ++ B) = flatF j A ++ flatF (j + A.length) B
  | [], B, j => by simp [flatF]
  | a :: A, B, j => by
    simp only [List.cons_append, flatF, List.append_assoc, List.length_cons]
    rw [flatF_app A B (j + 1), show j + 1 + A.length = j + (A.length + 1) by (first | lia | omega)]
theorem flatF_nils : ∀ (k j : Nat), flatF j (List.replicate k []) = []
  | 0, _ => rfl
  | k + 1, j => by rw [List.replicate_succ]; simp only [flatF, List.map_nil, List.nil_append]; exact flatF_nils k (j + 1)
theorem flatF_fold (P : List Rws) (a b : Rws) (j : Nat) : flatF j (P ++ [b ++ a.map upR]) = flatF j (P ++ [b] ++ [a]) := by
  rw [List.append_assoc, flatF_app, flatF_app]
  congr 1
  simp only [List.singleton_append, flatF, List.append_nil, List.map_append, List.map_map]
  congr 1
  apply List.map_congr_left
  intro r _
  simp only [Function.comp, addR, upR]
  rw [show r.1 + 1 + (j + P.length + 1) = r.1 + (j + P.length + 1 + 1) by (first | lia | omega)]
def SmallF (F : Rws) : Prop := F.length ≤ 50 ∧ ∀ r ∈ F, r.1 ≤ 50
theorem flatF_mem : ∀ {LR : List Rws} {j : Nat} {rs : Rws}, rs ∈ LR → rs.length ≤ (flatF j LR).length ∧ ∀ r ∈ rs, ∃ q ∈ flatF j LR, r.1 ≤ q.1
  | a :: LR, j, rs, h => by
    rcases List.mem_cons.mp h with rfl | h
    · refine ⟨by simp [flatF], fun r hr => ⟨addR (j + 1) r, ?_, by show r.1 ≤ r.1 + (j + 1); (first | lia | omega)⟩⟩
      exact List.mem_append_left _ (List.mem_map_of_mem hr)
    · have ⟨h1, h2⟩ := flatF_mem (j := j + 1) h
      refine ⟨by simp only [flatF, List.length_append]; (first | lia | omega), fun r hr => ?_⟩
      obtain ⟨q, hq, hl⟩ := h2 r hr
      exact ⟨q, List.mem_append_right _ hq, hl⟩
theorem SmallF.lev {LR : List Rws} {F : Rws} (h : SmallF F) (e : flatF 0 LR = F) {rs : Rws} (hm : rs ∈ LR) : rs.length ≤ 50 ∧ ∀ r ∈ rs, r.1 ≤ 50 := by
  subst e
  have ⟨h1, h2⟩ := flatF_mem (j := 0) hm
  refine ⟨Nat.le_trans h1 h.1, fun r hr => ?_⟩
  obtain ⟨q, hq, hl⟩ := h2 r hr
  exact Nat.le_trans hl (h.2 q hq)
/-- a mail's text -/
def StrM (v : Value) (rs : Rws) : Prop := ∃ x t, v = .str x t ∧ Mail x.cps.toList rs
theorem mail_len {x : Str} {rs : Rws} (h : Mail x.cps.toList rs) (hb : rs.length ≤ 50 ∧ ∀ r ∈ rs, r.1 ≤ 50) : x.length ≤ 5150 := by
  have := h.len fun r hr => Nat.le_trans (hb.2 r hr) (by decide)
  rw [Array.length_toList] at this
  have e : x.length = x.cps.size := rfl
  (first | lia | omega)
theorem Fa.snoc {α β : Type} {R : α → β → Prop} : ∀ {l : List α} {k : List β}, Fa R l k → k ≠ [] → ∃ l1 a k1 b, l = l1 ++ [a] ∧ k = k1 ++ [b] ∧ Fa R l1 k1 ∧ R a b
  | _, _, .nil, h => absurd rfl h
  | _, _, @Fa.cons _ _ _ a b l k hx hr, _ => by
    cases hk : k with
    | nil =>
      subst hk
      cases hr
      exact ⟨[], a, [], b, rfl, rfl, .nil, hx⟩
    | cons c k2 =>
      obtain ⟨l1, a1, k1, b1, e1, e2, h1, h2⟩ := hr.snoc (by rw [hk]; simp)
      exact ⟨a :: l1, a1, b :: k1, b1, by rw [e1]; rfl, by rw [← hk, e2]; rfl, .cons hx h1, h2⟩
section
variable {w : World} {A : Around} {E : Value → Shared → Prop} {s : Shared} {env : Env}
theorem args0 {f : Value} {pos : Pos} {Q : Args → Shared → Prop} (h : Q ⟨[], []⟩ s) : wpAny (model prog w) A (evalArgs f true (backTo pos (starEach [] env)) []) Q E s :=
  by
  rw [show backTo pos (starEach [] env) = [] from rfl]
  exact wpAny_pure h
end
section
variable {w : World} {A : Around} {s₀ : Shared} {mg : Str → Option Value}
theorem folded_spec {f fq l P1 P2 : Addr} {vs : List Value} {n deep : Nat} {td : Tok} {LR : List Rws} {F : Rws} (GL : Gl mg (Bs.hid s₀ [l]).h) (Z : QEnv mg (Bs.hid s₀ [l]).h P1 P2) (hml : mg "len" = none) (hmq : mg "quotedata" = some (.ref fq))
    (hfq : Fn (Bs.hid s₀ [l]).h fq "quotedata" 13 .none .none) (hfn : Fn (Bs.hid s₀ [l]).h f "_law_folded" 16 .none .none) (hA : Rm A 2) (hl : s₀.heap.get? l = some (lob vs n))
    (hF : Fa StrM vs LR) (h1 : 1 ≤ LR.length) (h2 : LR.length ≤ 20) (hd : deep ≤ 20) (hfl : flatF 0 LR = F) (hok : SmallF F) :
    codeAny (model prog w) A (.call (.ref f) ⟨[.ref l, .int deep td], []⟩) (fun r s' => ∃ D us n' LR', r = .ok (.ret (.ref D)) ∧ Grows (Bs.hid s₀ [l]) s' [(D, lob us n')] ∧ Fa StrM us LR' ∧ flatF 0 LR' = F ∧ LR'.length = deep + 1) s₀ := by
  have up : ∀ b o, (Bs.hid s₀ [l]).h.get? b = some o → s₀.heap.get? b = some o := fun b o e => of_hideAll _ e
  refine callDef [("levels", .ref l), ("deep", .int deep td)] [(l, lob vs n)] (hfn.keeps up) (GL.keeps up).lim hA (fun _ _ _ _ _ => BindsTo.of_eq rfl) (fun p hp => by obtain rfl := List.mem_singleton.mp hp; exact hl) (by simp) ?_
  intro A' L cd s hA' S
  have hh' := hA'.hh
  refine sWhile (fun k s' => ∃ m vs n LR, k = LR.length ∧ m "levels" = some (.ref l) ∧ m "deep" = some (.int deep td) ∧ St (Bs.hid s₀ [l]) L m [(l, lob vs n)] s' ∧ Fa StrM vs LR ∧ 1 ≤ LR.length ∧ LR.length ≤ 20 ∧ flatF 0 LR = F) LR.length
    ⟨_, vs, n, LR, rfl, rfl, rfl, S, hF, h1, h2, hfl⟩ ?_
  clear S hF h1 h2 hfl hl
  intro k0 s hJ
  refine hideQ ?_; intro Qi hQi
  obtain ⟨m, vs, n, LR, rfl, m1, m2, S, hF, h1, h2, hfl⟩ := hJ
  have hvl := hF.len
  refine wpAny_isTrue_Compare1 ?_
  refine cB1 (id := "len") ?_
  refine nmB S GL hml (by rfl) ?_
  refine ⟨rfl, ?_⟩
  refine nmL S m1 ?_
  refine lenL S (isL S (.head _)) (by (first | lia | omega)) ?_; intro t1 s S
  refine wpAny_BinOp ?_
  refine nmL S m2 ?_
  refine cI S ?_; intro t2 s S
  refine iAdd S ?_; intro t3 s S
  refine gtI ?_
  refine tB (hQi _ _ ?_)
  by_cases hlt : deep + 1 < LR.length
  · rw [if_pos (by simp; (first | lia | omega))]
    refine hideQ ?_; intro Qb hQb
    obtain ⟨vs1, va, LR1, a, rfl, rfl, hF1, x, tx, rfl, hMa⟩ := hF.snoc (by intro e; rw [e] at h1; simp at h1)
    obtain ⟨vs2, vb, LR2, b, rfl, rfl, hF2, y, ty, rfl, hMb⟩ := hF1.snoc (by intro e; rw [e] at hlt; simp at hlt)
    have hba := hok.lev hfl (rs := a) (by simp)
    have hbb := hok.lev hfl (rs := b) (by simp)
    simp only [List.length_append, List.length_cons, List.length_nil] at h2 hvl hlt
    refine sAsg ?_
    refine call1 (B := Bs.hid s₀ [l]) (L := L) hfq ?_
    refine nmG S GL hmq ?_
    refine ⟨rfl, ?_⟩
    refine meth ?_
    refine nmL S m1 ?_
    refine gmL (S.get (.head _)) PySem.F.slot_list_pop PySem.F.type_list_pop ?_
    refine args0 ?_
    refine popL S .head (by simp; (first | lia | omega)) ?_; intro s S
    refine ⟨⟨_, _, S⟩, ?_⟩
    refine callC S (quote_spec (GL.keeps S.F.keep) (Z.keeps S.F.keep) (hfq.keeps S.F.keep) hA' hMa (fun r hr => Nat.le_trans (hba.2 r hr) (by decide)) (Nat.le_trans hba.1 (by decide))) ?_
    rintro r ys s ⟨t4, rfl⟩ S
    replace S := S.sub (List.sublist_append_right _ _)
    refine stL S ?_; intro s S
    have hMi : Mail (can (a.map upR)) (a.map upR) := Mail.can (upR_rows hMa.rows)
    have hil : (⟨(can (a.map upR)).toArray⟩ : Str).length ≤ 5150 := by
      show (can (a.map upR)).toArray.size ≤ _
      have := can_len (rs := a.map upR) (fun r hr => by
        obtain ⟨q, hq, rfl⟩ := List.mem_map.mp hr
        have := hba.2 q hq
        show q.1 + 1 ≤ 100
        (first | lia | omega))
      rw [List.length_map] at this
      rw [List.size_toArray]
      (first | lia | omega)
    have hyl := mail_len hMb hbb
    refine sSub ?_
    refine wpAny_BinOp ?_
    refine Subscript_ ?_
    refine nmL S (by exact m1) ?_
    refine wpAny_UnaryOp ?_
    refine cI S ?_; intro t5 s S
    refine iNeg S ?_; intro t6 s S
    refine itLast (isL S (.head _)) (v := .str y ty) (by simp) ?_
    refine nmL S rfl ?_
    refine addS S (by (first | lia | omega)) ?_; intro t7 s S
    refine nmL S (by exact m1) ?_
    refine wpAny_UnaryOp ?_
    refine cI S ?_; intro t8 s S
    refine iNeg S ?_; intro t9 s S
    refine setN (us := vs2 ++ [.str (y ++ ⟨(can (a.map upR)).toArray⟩) t7]) S (by simp) (by simp; (first | lia | omega)) .head (by simp) ?_; intro s S
    refine wpAny_execs_nil (hQb _ _ ?_)
    refine ⟨rfl, (LR2 ++ [b ++ a.map upR]).length, by simp, _, _, _, LR2 ++ [b ++ a.map upR], rfl, by exact m1, by exact m2, S, hF2.app (.cons ⟨_, t7, rfl, ?_⟩ .nil), by simp, by simp; (first | lia | omega), ?_⟩
    · have := hMb.app hMi
      rw [show (y ++ (⟨(can (a.map upR)).toArray⟩ : Str)).cps.toList = y.cps.toList ++ can (a.map upR) by
        show (y.cps ++ (can (a.map upR)).toArray).toList = _
        simp]
      exact this
    · rw [flatF_fold, hfl]
  · rw [if_neg (by simp; (first | lia | omega))]
    refine sRet ?_
    refine wpAny_BinOp ?_
    refine nmL S m1 ?_
    refine wpAny_BinOp ?_
    refine List_ ?_
    refine spC ?_
    refine cS S ?_; intro t4 s S
    refine spN ?_
    refine nwL S ?_; intro e s S
    refine wpAny_BinOp ?_
    refine wpAny_BinOp ?_
    refine nmL S m2 ?_
    refine cI S ?_; intro t5 s S
    refine iAdd S ?_; intro t6 s S
    refine cB1 (id := "len") ?_
    refine nmB S GL hml (by rfl) ?_
    refine ⟨rfl, ?_⟩
    refine nmL S m1 ?_
    refine lenL S (isL S (.tail _ (.head _))) (by (first | lia | omega)) ?_; intro t7 s S
    refine iSub S ?_; intro t8 s S
    refine mulL S (isL S (.head _)) (by (first | lia | omega)) (by (first | lia | omega)) (by simp) ?_; intro D2 s S
    have hrep : (List.replicate ((deep : Int) + 1 - (vs.length : Int)).toNat [Value.str (Str.ofString "") t4]).flatten = List.replicate (deep + 1 - LR.length) (Value.str (Str.ofString "") t4) := by
      rw [show ((deep : Int) + 1 - (vs.length : Int)).toNat = deep + 1 - LR.length by (first | lia | omega)]
      rw [List.flatten_replicate_singleton]
    rw [hrep] at S
    refine addL S (isL S (.tail _ (.tail _ (.head _)))) (isL S (.head _)) (by simp; (first | lia | omega)) ?_; intro D s S
    refine ⟨D, _, 0, LR ++ List.replicate (deep + 1 - LR.length) [], rfl, (S.sub (zs' := [(D, _)]) (.cons_cons _ (List.nil_sublist _))).grows, hF.app ?_, ?_, by simp; (first | lia | omega)⟩
    · have : ∀ k, Fa StrM (List.replicate k (Value.str (Str.ofString "") t4)) (List.replicate k []) := by
        intro k
        induction k with
        | zero => exact .nil
        | succ k ih => rw [List.replicate_succ, List.replicate_succ]; exact .cons ⟨_, t4, rfl, .nil⟩ ih
      exact this _
    · rw [flatF_app, flatF_nils, List.append_nil, hfl]
end
end Mine
end
section
open PySem PySem.W PyProof.Rows PySem.Calls
set_option maxRecDepth 100000
set_option maxHeartbeats 1000000
namespace Mine
def cdN (n : Str) : Nat := n.cps.toList.headD 0
theorem OkN.cd {n : Str} (h : OkN n) : n.cps.toList = [cdN n] ∧ (cdN n = 102 ∨ cdN n = 103 ∨ cdN n = 104) := by
  rcases h with rfl | rfl | rfl
  · exact ⟨by decide +kernel, .inl (by decide +kernel)⟩
  · exact ⟨by decide +kernel, .inr (.inl (by decide +kernel))⟩
  · exact ⟨by decide +kernel, .inr (.inr (by decide +kernel))⟩
def rowOf (p : Int × Str) : Nat × Nat := (p.1.toNat + 2, cdN p.2)
def rowS (p : Int × Str) : Str := ⟨(lineN (rowOf p)).toArray⟩
theorem pick_butLast (vs : List Value) (h : 1 ≤ vs.length) : (slicePick vs.toArray none (some (-1)) none).toList = vs.dropLast := by
  have e : sliceBounds none (some (-1)) none vs.toArray.size = (((0 : Nat) : Int), ((vs.length - 1 : Nat) : Int), 1) := by
    simp only [sliceBounds, Option.getD_none, show (1 : Int) > 0 by decide, if_true, show ((-1 : Int) < 0) by decide, List.size_toArray]
    refine Prod.ext rfl (Prod.ext ?_ rfl)
    simp only
    (first | lia | omega)
  rw [kmk_pick_nat _ e]
  show (vs.drop 0).take (vs.length - 1 - 0) = _
  rw [List.drop_zero, Nat.sub_zero, List.dropLast_eq_take]
section
variable {w : World} {A : Around} {E : Value → Shared → Prop} {s : Shared} {B : Bs} {L : Addr} {m : Str → Option Value} {zs : List (Addr × Obj)} {env : Env}
/-- a call that may turn the ledger's first object, which is then let go -/
theorem callI {f l : Addr} {o : Obj} {args : Args} {P : Value → List (Addr × Obj) → Prop} {Q : Value → Shared → Prop} (S : St B L m ((l, o) :: zs) s)
    (hc : codeAny (model prog w) A (.call (.ref f) args) (fun r s' => ∃ v ys, r = .ok (.ret v) ∧ Grows (Bs.hid s [l]) s' ys ∧ P v ys) s) (h : ∀ v ys s', P v ys → St B L m (ys ++ zs) s' → Q v s') :
    wpAny (model prog w) A (call (.ref f) args.pos args.kw) Q E s := by
  refine wpAny_call (codeAny_mono hc fun r s' hr => ?_)
  obtain ⟨v, ys, rfl, g, p⟩ := hr
  exact h v ys s' p (S.growI g)
end
theorem Mail.one {c : Nat} {e : List Nat} (hc : c = 102 ∨ c = 103 ∨ c = 104) (he : e = [10] ∨ e = [13] ∨ e = [13, 10]) : Mail ([46, c] ++ e) [(1, c)] := by
  have := Mail.cons (k := 1) (Nat.le_refl 1) hc he .nil
  simpa using this
section
variable {w : World} {A : Around} {s₀ : Shared} {mg : Str → Option Value}
theorem mail_spec {f ff fq cl P1 P2 : Addr} {us : List Value} {ds : List (Int × Str)} {turn : Int} {tt : Tok} (GL : Gl mg s₀.heap) (Z : QEnv mg s₀.heap P1 P2) (hml : mg "len" = none) (hmq : mg "quotedata" = some (.ref fq)) (hmf : mg "_law_folded" = some (.ref ff))
    (hfq : Fn s₀.heap fq "quotedata" 13 .none .none) (hff : Fn s₀.heap ff "_law_folded" 16 .none .none) (hfn : Fn s₀.heap f "_law_mail" 17 .none .none) (hA : Rm A 3)
    (hcl : s₀.heap.IsList cl us.toArray) (hds : Fa (Pair (On s₀.heap)) us ds) (hok : ∀ p ∈ ds, 0 ≤ p.1 ∧ p.1 ≤ 10 ∧ OkN p.2) (hlen : ds.length ≤ 10) (hne : ds ≠ []) :
    Tells w A (.ref f) ⟨[.ref cl, .int turn tt], []⟩ (fun v ys => ∃ l vs n, v = .ref l ∧ (l, lob vs n) ∈ ys ∧ Fa StrV vs (ds.map rowS)) s₀ := by
  have hul := hds.len
  have small : ∀ i, SmallF ((ds.take i).map rowOf) := by
    intro i
    refine ⟨by simp; (first | lia | omega), fun r hr => ?_⟩
    obtain ⟨p, hp, rfl⟩ := List.mem_map.mp hr
    have := hok p (List.mem_of_mem_take hp)
    show p.1.toNat + 2 ≤ 50
    (first | lia | omega)
  refine callDef0 [("calls", .ref cl), ("turn", .int turn tt)] hfn GL.lim hA (fun _ _ _ _ _ => BindsTo.of_eq rfl) ?_
  intro A' L cd s hA' S
  refine hideQ ?_; intro Qf hQf
  have hh' := hA'.hh
  refine sAsg ?_
  refine List_ ?_
  refine spC ?_
  refine cS S ?_; intro t1 s S
  refine spN ?_
  refine nwL S ?_; intro l s S
  refine stL S ?_; intro s S
  refine sFor ?_
  refine nmL S rfl ?_
  refine itrL S (isLb S hcl) ?_; intro I s S
  refine forL (items := us) hh' S rfl (fun i m zs => m "turn" = some (.int turn tt) ∧ ∃ l vs n LR ys, m "levels" = some (.ref l) ∧ zs = (l, lob vs n) :: ys ∧ Fa StrM vs LR ∧ 1 ≤ LR.length ∧ LR.length ≤ 20 ∧ flatF 0 LR = (ds.take i).map rowOf)
    ⟨rfl, l, _, 0, [[]], [], rfl, rfl, .cons ⟨_, t1, rfl, .nil⟩ .nil, by simp, by simp, by simp [flatF]⟩ ?_ ?_ ?_
  · rintro i m' zs' s' _ S'
    exact isLb S' hcl
  · intro i v m zs s io hv hJ S
    refine hideQ2 ?_; intro Qb hQb
    obtain ⟨m1, l, vs, n, LR, ys, m2, rfl, hF, h1, h2, hfl⟩ := hJ
    have hi : i < ds.length := by rw [← hul]; exact (List.getElem?_eq_some_iff.mp hv).1
    obtain ⟨v', hv', t, ta, tb, rfl, hm⟩ := hds.get (i := i) (b := ds[i]) (by simp [hi])
    obtain rfl : v = .ref t := Option.some.inj (hv.symm.trans hv')
    have hoki := hok ds[i] (List.getElem_mem hi)
    have htk : ds.take (i + 1) = ds.take i ++ [ds[i]] := List.take_succ_eq_append_getElem hi
    generalize ds[i] = it at *
    obtain ⟨d, nm⟩ := it
    simp only at hoki hm
    obtain ⟨d, rfl⟩ := Int.eq_ofNat_of_zero_le hoki.1
    refine unT S hh' (isTb S ⟨_, hm, rfl, 0, rfl⟩) rfl rfl ?_; intro s S
    refine aio ?_
    refine stL S ?_; intro s S
    refine aio ?_
    refine stL S ?_; intro s S
    refine aio0 ?_
    refine sAsg ?_
    refine call2 (B := Bs.of s₀) (L := L) hff ?_
    refine nmG S GL hmf ?_
    refine ⟨rfl, ?_⟩
    refine nmL S (by exact m2) ?_
    refine nmL S rfl ?_
    refine ⟨⟨_, _, S⟩, ?_⟩
    replace S := S.down1
    have hb := S.hidB (.head _)
    refine callI (args := ⟨[.ref l, .int (d : Int) ta], []⟩) (P := fun v ys => ∃ D us n' LR', v = .ref D ∧ ys = [(D, lob us n')] ∧ Fa StrM us LR' ∧ flatF 0 LR' = (ds.take i).map rowOf ∧ LR'.length = d + 1) S
      (codeAny_mono (folded_spec (deep := d) (GL.keeps hb) (Z.keeps hb) hml hmq (hfq.keeps hb) (hff.keeps hb) hA' (S.get (.head _)) hF h1 h2 (by (first | lia | omega)) hfl (small i)) ?_) ?_
    · rintro r s' ⟨D, us, n', LR', e, g, h3, h4, h5⟩
      exact ⟨_, _, e, g, D, us, n', LR', rfl, rfl, h3, h4, h5⟩
    rintro _ _ s ⟨D, us', n', LR', rfl, rfl, hF', hfl', hlen'⟩ S
    replace S := S.down1
    clear hF hfl h1 h2
    have hus := hF'.len
    obtain ⟨vs1, va, LR1, a, rfl, rfl, hF1, x, tx, rfl, hM⟩ := hF'.snoc (by intro e; rw [e] at hlen'; simp at hlen')
    have hba := (small i).lev hfl' (rs := a) (by simp)
    have hxl := mail_len hM hba
    simp only [List.length_append, List.length_cons, List.length_nil] at hlen' hus
    have hitem : (vs1 ++ [Value.str x tx])[((d : Nat) : Int).toNat]? = some (.str x tx) := by
      rw [Int.toNat_natCast, show d = vs1.length by (first | lia | omega)]; simp
    refine stL S ?_; intro s S
    refine sAsg ?_
    refine Subscript_ ?_
    refine List_ ?_
    refine spC ?_
    refine cS S ?_; intro t2 s S
    refine spC ?_
    refine cS S ?_; intro t3 s S
    refine spC ?_
    refine cS S ?_; intro t4 s S
    refine spN ?_
    refine nwL S ?_; intro el s S
    refine wpAny_BinOp ?_
    refine wpAny_BinOp ?_
    refine nmL S (by exact m1) ?_
    refine cB1 (id := "len") ?_
    refine nmB S GL hml (by rfl) ?_
    refine ⟨rfl, ?_⟩
    refine Subscript_ ?_
    refine nmL S rfl ?_
    refine nmL S rfl ?_
    refine itL (isL S (.tail _ (.tail _ (.head _)))) (by (first | lia | omega)) hitem ?_ (by (first | lia | omega))
    refine lenS S (by (first | lia | omega)) ?_; intro t5 s S
    refine iAdd S ?_; intro t6 s S
    refine cI S ?_; intro t7 s S
    refine iMod S (by decide) ?_; intro t8 s S
    have g1 := Int.fmod_nonneg_of_pos (turn + (x.length : Int)) (show (0 : Int) < 3 by decide)
    have g2 := Int.fmod_lt_of_pos (turn + (x.length : Int)) (show (0 : Int) < 3 by decide)
    generalize (turn + (x.length : Int)).fmod 3 = z at *
    have hend : ∃ e te, [Value.str (Str.ofString "\n") t2, .str (Str.ofString "\r") t3, .str (Str.ofString "\r\n") t4][z.toNat]? = some (.str e te) ∧ (e.cps.toList = [10] ∨ e.cps.toList = [13] ∨ e.cps.toList = [13, 10]) := by
      have : z = 0 ∨ z = 1 ∨ z = 2 := by (first | lia | omega)
      rcases this with rfl | rfl | rfl
      · exact ⟨_, _, rfl, .inl (by decide +kernel)⟩
      · exact ⟨_, _, rfl, .inr (.inl (by decide +kernel))⟩
      · exact ⟨_, _, rfl, .inr (.inr (by decide +kernel))⟩
    obtain ⟨e, te, hend, he⟩ := hend
    refine itL (isL S (.head _)) g1 hend ?_ (by (first | lia | omega))
    replace S := S.drop1
    refine stL S ?_; intro s S
    have hcd := hoki.2.2.cd
    have hel : e.length ≤ 2 := by
      show e.cps.size ≤ 2
      rw [← Array.length_toList]
      rcases he with h | h | h <;> rw [h] <;> simp
    have hnl : nm.length = 1 := by
      show nm.cps.size = 1
      rw [← Array.length_toList, hcd.1]; rfl
    have hlA : ∀ a b : Str, (a ++ b).length = a.length + b.length := by
      intro a b
      show (a.cps ++ b.cps).size = _
      rw [Array.size_append]; rfl
    have hd1 : (Str.ofString ".").length = 1 := by decide +kernel
    refine sSub ?_
    refine wpAny_BinOp ?_
    refine wpAny_BinOp ?_
    refine wpAny_BinOp ?_
    refine Subscript_ ?_
    refine nmL S rfl ?_
    refine nmL S rfl ?_
    refine itL (isL S (.tail _ (.head _))) (by (first | lia | omega)) hitem ?_ (by (first | lia | omega))
    refine cS S ?_; intro t9 s S
    refine addS S (by (first | lia | omega)) ?_; intro t10 s S
    refine nmL S rfl ?_
    refine addS S (by simp only [hlA]; (first | lia | omega)) ?_; intro t11 s S
    refine nmL S rfl ?_
    refine addS S (by simp only [hlA]; (first | lia | omega)) ?_; intro t12 s S
    refine nmL S rfl ?_
    refine nmL S rfl ?_
    refine setP (us := vs1 ++ [.str (x ++ Str.ofString "." ++ nm ++ e) t12]) S (by (first | lia | omega)) (by simp; (first | lia | omega)) (by simp; (first | lia | omega)) (.tail .head) (by rw [Int.toNat_natCast, show d = vs1.length by (first | lia | omega)]; simp) ?_; intro s S
    refine wpAny_execs_nil (hQb _ _ ?_)
    refine (.inl ⟨rfl, _, _, S, by exact m1, D, _, n', LR1 ++ [a ++ [(1, cdN nm)]], ys, rfl, rfl, hF1.app (.cons ⟨_, t12, rfl, ?_⟩ .nil), by simp, by simp; (first | lia | omega), ?_⟩)
    · have := hM.app (Mail.one hcd.2 he)
      rw [show (x ++ Str.ofString "." ++ nm ++ e).cps.toList = x.cps.toList ++ ([46, cdN nm] ++ e.cps.toList) by
        show (x.cps ++ (Str.ofString ".").cps ++ nm.cps ++ e.cps).toList = _
        rw [Array.toList_append, Array.toList_append, Array.toList_append, hcd.1, show (Str.ofString ".").cps.toList = [46] by decide +kernel]
        simp]
      exact this
    · rw [htk, List.map_append, ← hfl', flatF_app, flatF_app, List.append_assoc]
      congr 1
      simp only [flatF, List.map_append, List.append_nil, List.map_cons, List.map_nil]
      congr 1
      simp only [addR, rowOf, Int.toNat_natCast]
      rw [show 1 + (0 + LR1.length + 1) = d + 2 by (first | lia | omega)]
  · rintro m zs s ⟨m1, l, vs, n, LR, ys, m2, rfl, hF, h1, h2, hfl⟩ S
    rw [hul, List.take_length] at hfl
    have hsm := small ds.length
    rw [List.take_length] at hsm
    refine sRet ?_
    refine Subscript_ ?_
    refine meth ?_
    refine call1 (B := Bs.of s₀) (L := L) hfq ?_
    refine nmG S GL hmq ?_
    refine ⟨rfl, ?_⟩
    refine Subscript_ ?_
    refine call2 (B := Bs.of s₀) (L := L) hff ?_
    refine nmG S GL hmf ?_
    refine ⟨rfl, ?_⟩
    refine nmL S (by exact m2) ?_
    refine cI S ?_; intro t1 s S
    refine ⟨⟨_, _, S⟩, ?_⟩
    have hb := S.hidB (.head _)
    refine callI (args := ⟨[.ref l, .int 0 t1], []⟩) (P := fun v ys => ∃ D us n' LR', v = .ref D ∧ ys = [(D, lob us n')] ∧ Fa StrM us LR' ∧ flatF 0 LR' = ds.map rowOf ∧ LR'.length = 0 + 1) S
      (codeAny_mono (folded_spec (deep := 0) (GL.keeps hb) (Z.keeps hb) hml hmq (hfq.keeps hb) (hff.keeps hb) hA' (S.get (.head _)) hF h1 h2 (by (first | lia | omega)) hfl hsm) ?_) ?_
    · rintro r s' ⟨D, us, n', LR', e, g, h3, h4, h5⟩
      exact ⟨_, _, e, g, D, us, n', LR', rfl, rfl, h3, h4, h5⟩
    rintro _ _ s ⟨D, us', n', LR', rfl, rfl, hF', hfl', hlen'⟩ S
    obtain ⟨a, rfl⟩ := List.length_eq_one_iff.mp hlen'
    cases hF' with
    | @cons va _ vr _ hx hr =>
    cases hr
    obtain ⟨x, tx, rfl, hM⟩ := hx
    have hba := hsm.lev hfl' (rs := a) (by simp)
    have hrs : a.map upR = ds.map rowOf := by
      rw [← hfl']
      simp only [flatF, List.append_nil]
      rfl
    refine cI S ?_; intro t2 s S
    refine itL (isL S (.head _)) (by decide) rfl ?_ (by decide)
    refine ⟨⟨_, _, S⟩, ?_⟩
    refine callC S (quote_spec (GL.keeps S.F.keep) (Z.keeps S.F.keep) (hfq.keeps S.F.keep) (hA'.le (by (first | lia | omega))) hM (fun r hr => Nat.le_trans (hba.2 r hr) (by decide)) (Nat.le_trans hba.1 (by decide))) ?_
    rintro r ys2 s ⟨t3, rfl⟩ S
    rw [hrs]
    have hrw : OkRs (ds.map rowOf) := hrs ▸ upR_rows hM.rows
    have hcl2 : (can (ds.map rowOf)).length ≤ 103 * (ds.map rowOf).length := can_len fun r hr => Nat.le_trans (hsm.2 r hr) (by decide)
    rw [List.length_map] at hcl2
    refine GM.split ?_
    refine callWith_builtin rfl (args1 ?_)
    refine cS S ?_; intro t4 s S
    have e0 : Str.ofString "\r\n" = CRLF := by decide +kernel
    rw [e0]
    have hne2 : ds.map rowOf ≠ [] := by simpa using hne
    refine splS S (by decide) (by show (can (ds.map rowOf)).toArray.size ≤ _; rw [List.size_toArray]; (first | lia | omega)) (by rw [parts_can hrw]; simp; (first | lia | omega)) ?_
    intro D2 vs2 s hv2 S hD2
    rw [split_can hrw hne2] at hv2
    have hv2l := hv2.len
    simp only [List.length_append, List.length_map, List.length_cons, List.length_nil] at hv2l
    refine wpAny_Slice ?_
    refine wpAny_evalPart_none ?_
    refine wpAny_evalPart_some ?_
    refine wpAny_UnaryOp ?_
    refine wpAny_Constant_int ?_
    refine PyProof.Rows.neg_int ?_
    refine wpAny_evalPart_none ?_
    refine slL (S.tk (s.toks + 1 + 1)) hD2 .none (.int _ _) .none (by decide) (by rw [hv2l]; exact Nat.le_trans (show _ ≤ 100 by (first | lia | omega)) (by decide)) ?_
    intro D3 s S
    rw [pick_butLast vs2 (by (first | lia | omega))] at S
    refine hQf _ _ ?_
    refine ⟨_, _, rfl, S.grows, D3, _, 0, rfl, .head _, ?_⟩
    have := hv2.take (vs2.length - 1)
    rw [← List.dropLast_eq_take, List.take_left' (by simp; (first | lia | omega)), List.map_map] at this
    exact this
end
end Mine
end
section
open PySem PySem.W PyProof.Rows PySem.Calls
set_option maxRecDepth 100000
set_option maxHeartbeats 1000000
namespace Mine
section
variable {w : World} {A : Around} {E : Value → Shared → Prop} {s : Shared} {B : Bs} {L : Addr} {m mg : Str → Option Value} {zs : List (Addr × Obj)} {env : Env}
def dotsS (n : Nat) : Str := ⟨(List.replicate n 46).toArray⟩
theorem mul_dots (n : Nat) (h : 1 ≤ n) : Txt.mul (Str.ofString ".") (n : Int) = dotsS n := by
  have e0 : Str.ofString "." = ⟨#[46]⟩ := by decide +kernel
  rw [e0]
  unfold Txt.mul
  rw [if_neg (by (first | lia | omega))]
  by_cases h1 : n = 1
  · subst h1; rfl
  · have e2 : (((n : Nat) : Int) == 1) = false := by simp; (first | lia | omega)
    rw [if_neg (by rw [e2]; decide)]
    unfold dotsS
    congr 1
    have : ∀ (k : Nat) (a : Array Nat), (List.replicate k (#[46] : Array Nat)).foldl (· ++ ·) a = a ++ (List.replicate k 46).toArray := by
      intro k
      induction k with
      | zero => intro a; simp
      | succ k ih => intro a; rw [List.replicate_succ, List.foldl_cons, ih, List.replicate_succ]; apply Array.toList_inj.mp; simp
    rw [Int.toNat_natCast, this n #[]]
    simp
/-- dots -/
theorem mulS {n : Int} {t u : Tok} {Q : Value → Shared → Prop} (S : St B L m zs s) (h1 : 1 ≤ n) (h2 : n ≤ 1000) (h : ∀ t' s', St B L m zs s' → Q (.str (dotsS n.toNat) t') s') : wpAny (model prog w) A (binaryOp .Mult (.str (Str.ofString ".") t) (.int n u)) Q E s := by
  refine KXi.mul (n := 1) (by decide +kernel) (by decide) (by (first | lia | omega)) (by (first | lia | omega)) fun t' k _ _ => ?_
  have := mul_dots n.toNat (by (first | lia | omega))
  rw [show ((n.toNat : Nat) : Int) = n by (first | lia | omega)] at this
  rw [this]
  exact h t' _ (S.tk k)
end
def IntN (v : Value) (k : Nat) : Prop := ∃ t, v = .int k t
def PairN (R : Addr → Obj → Prop) (v : Value) (p : Nat × Nat) : Prop := ∃ t a b, v = .ref t ∧ R t (tob [.int p.1 a, .int p.2 b])
def undF (sp : Nat → Int) (t j : Nat) : List Nat := (List.range' 1 t).filter fun i => sp i == (j : Int)
theorem undF_succ (sp : Nat → Int) (t j : Nat) : undF sp (t + 1) j = undF sp t j ++ (if sp (t + 1) == (j : Int) then [t + 1] else []) := by
  unfold undF
  rw [List.range'_1_concat, List.filter_append, show 1 + t = t + 1 by (first | lia | omega)]
  congr 1
  by_cases h : (sp (t + 1) == (j : Int)) = true
  · rw [if_pos h]; simp only [List.filter_cons, h, if_true, List.filter_nil]
  · rw [if_neg h]; simp only [List.filter_cons, h, List.filter_nil]; rfl
theorem undF_mem {sp : Nat → Int} {t j i : Nat} (h : i ∈ undF sp t j) : 1 ≤ i ∧ i ≤ t := by
  have := (List.mem_filter.mp h).1
  rw [List.mem_range'_1] at this
  (first | lia | omega)
theorem undF_len (sp : Nat → Int) (t j : Nat) : (undF sp t j).length ≤ t := by
  unfold undF
  exact Nat.le_trans (List.length_filter_le _ _) (by simp)
def ordF (way : Int) (l : List Nat) : List Nat := if way = 1 then l.reverse else l
theorem ordF_mem {way : Int} {l : List Nat} {i : Nat} (h : i ∈ ordF way l) : i ∈ l := by
  unfold ordF at h
  split at h
  · exact List.mem_reverse.mp h
  · exact h
theorem ordF_len (way : Int) (l : List Nat) : (ordF way l).length = l.length := by unfold ordF; split <;> simp
/-- the reading, its stack in hand; none: not through yet -/
def runR (und : Nat → List Nat) (way : Int) : Nat → List (Nat × Nat) → List (Nat × Nat) → Option (List (Nat × Nat))
  | 0, _, _ => none
  | f + 1, st, out => match st.getLast? with
    | none => some out
    | some (i, d) => runR und way f (st.dropLast ++ (ordF way (und i)).map (fun k => (k, d + 1))) (out ++ [(i, d)])
def rdS (nms : List Str) (p : Nat × Nat) : Str := dotsS (p.2 + 2) ++ nms.getD p.1 default
theorem Fa.rev {α β : Type} {R : α → β → Prop} {l k} (h : Fa R l k) : Fa R l.reverse k.reverse := by
  induction h with
  | nil => exact .nil
  | cons x _ ih => rw [List.reverse_cons, List.reverse_cons]; exact ih.app (.cons x .nil)
theorem pick_ord {vs : List Value} {ks : List Nat} {way : Int} (hw : way = 1 ∨ way = -1) (h : Fa IntN vs ks) : Fa IntN (slicePick vs.toArray none none (some (-way))).toList (ordF way ks) := by
  rcases hw with rfl | rfl
  · rw [krv_pick]
    unfold ordF
    rw [if_pos rfl]
    exact h.rev
  · have e : (slicePick vs.toArray none none (some (- -1))).toList = vs := by
      have e1 : slicePick vs.toArray none none (some (- -1)) = slicePick vs.toArray none none none := rfl
      rw [e1, slicePick_all]
    rw [e]
    unfold ordF
    rw [if_neg (by decide)]
    exact h
/-- the lists of those that a call has called -/
def Und (ys : List (Addr × Obj)) (as : List (Addr × List Nat)) : Prop := (as.map (·.1)).Nodup ∧ ∀ p ∈ as, ∃ vs n, (p.1, lob vs n) ∈ ys ∧ Fa IntN vs p.2
theorem Und.mono {ys ys' as} (h : Und ys as) (hm : ∀ p ∈ ys, p ∈ ys') : Und ys' as := ⟨h.1, fun p hp => let ⟨vs, n, h1, h2⟩ := h.2 p hp; ⟨vs, n, hm _ h1, h2⟩⟩
section
variable {w : World} {A : Around} {s₀ : Shared} {mg : Str → Option Value}
theorem read_spec {f ql nl : Addr} {cd : Value} {qu nu : List Value} {q : List Int} {nms : List Str} {way : Int} {tw : Tok} {res : List (Nat × Nat)} (GL : Gl mg s₀.heap) (hm1 : mg "range" = none) (hm2 : mg "len" = none)
    (hfn : FnC s₀.heap f "_law_read" "_law_read" (defAt 23) .none .none cd) (hA : Rm A 1) (hql : s₀.heap.IsList ql qu.toArray) (hq : Fa IntV qu q) (hnl : s₀.heap.IsList nl nu.toArray) (hn : Fa StrV nu nms) (e1 : q.length = nms.length) (hlen : nms.length ≤ 10) (hlen1 : 1 ≤ nms.length) (hway : way = 1 ∨ way = -1)
    (hsz : ∀ x ∈ nms, x.length ≤ 10) (hsp : ∀ i, 1 ≤ i → i < q.length → 0 ≤ (i : Int) - q.getD i 0 - 1 ∧ (i : Int) - q.getD i 0 - 1 < q.length)
    (hres : runR (undF (fun i => (i : Int) - q.getD i 0 - 1) (q.length - 1)) way 20 [(0, 0)] [] = some res) :
    Tells w A (.ref f) ⟨[.ref ql, .ref nl, .int way tw], []⟩ (fun v ys => ∃ l vs n, v = .ref l ∧ (l, lob vs n) ∈ ys ∧ Fa StrV vs (res.map (rdS nms))) s₀ := by
  have hqul := hq.len
  have hnul := hn.len
  generalize hsf : (fun i : Nat => (i : Int) - q.getD i 0 - 1) = sp at *
  refine callDefC [("queue", .ref ql), ("names", .ref nl), ("way", .int way tw)] [] hfn GL.lim hA (fun _ _ _ _ => BindsTo.of_eq rfl) (fun _ h => nomatch h) List.nodup_nil ?_
  intro A' L cells s hA' hcells hbL S
  refine hideQ ?_; intro Qf hQf
  have hh' := hA'.hh
  have hc2 : ∃ o1, cells = [(L + 1, o1)] ∧ o1.data = .cell none := by
    have hcl : cellsFrom (L + 1) (defAt 23).2.2.names [] = [(Str.ofString "deep", L + 1)] := rfl
    rw [hcl] at hcells
    cases hcells with
    | cons h1 hr => cases hr with
      | nil => exact ⟨_, rfl, h1⟩
  obtain ⟨o1, rfl, hd1⟩ := hc2
  refine asLC S rfl ?_
  refine nmL S rfl ?_
  refine itrL S (isLb S hnl) ?_; intro I s S
  have bk := S.hidB (l := I) (.head _)
  refine ⟨I, _, _, nu.length, _, _, fun k acc ex => k ≤ nu.length ∧ ∃ as, acc = as.map (fun p => Value.ref p.1) ∧ Und ex as ∧ as.map (·.2) = List.replicate k [], rfl, S, ⟨rfl, rfl⟩, Itr.list nu hh' (let ⟨o, ho, r⟩ := hnl; ⟨o, bk _ _ ho, r⟩), ⟨by (first | lia | omega), [], rfl, ⟨List.nodup_nil, fun _ h => nomatch h⟩, rfl⟩, ?_, ?_, ?_⟩
  · rintro k acc ex ⟨hk, as, rfl, _, has⟩
    have := congrArg List.length has
    simp at this
    simp
    (first | lia | omega)
  · rintro C D k v acc n' ex m₁ s io₁ hk hv ⟨_, as, rfl, hU, has⟩ S
    refine asN ?_
    refine gsL S ?_; intro s S
    refine forIn0 ?_
    rw [if_pos rfl]
    refine List_ ?_
    refine spN ?_
    refine nwL S ?_; intro a s S
    have hnd := S.nd
    refine ⟨_, (a, lob [] 0) :: ex, S.down2, by (first | lia | omega), as ++ [(a, [])], by simp, ⟨?_, ?_⟩, by rw [List.map_append, has, List.replicate_succ']; rfl⟩
    · rw [List.map_append, List.nodup_append]
      refine ⟨hU.1, by simp, ?_⟩
      intro b hb c hc e
      simp only [List.map_cons, List.map_nil, List.mem_singleton] at hc
      subst hc e
      obtain ⟨p, hp, rfl⟩ := List.mem_map.mp hb
      obtain ⟨vs, n, h1, _⟩ := hU.2 p hp
      rw [List.map_cons, List.nodup_cons] at hnd
      exact hnd.1 (List.mem_map.mpr ⟨_, .tail _ (.tail _ h1), rfl⟩)
    · intro p hp
      rcases List.mem_append.mp hp with hp | hp
      · obtain ⟨vs, n, h1, h2⟩ := hU.2 p hp
        exact ⟨vs, n, .tail _ h1, h2⟩
      · obtain rfl := List.mem_singleton.mp hp
        exact ⟨[], 0, .head _, .nil⟩
  rintro U acc nU ex s ⟨_, as, rfl, hU, has⟩ S
  have hasl : as.length = nms.length := by
    have := congrArg List.length has
    simp at this
    (first | lia | omega)
  replace S := S.sub (zs' := (U, lob (as.map (fun p => Value.ref p.1)) nU) :: (ex ++ [(L + 1, o1)])) (List.Sublist.refl _)
  replace S := S.perm (zs' := (U, lob (as.map (fun p => Value.ref p.1)) nU) :: (L + 1, o1) :: ex) (.cons _ (List.perm_append_singleton _ _).symm)
  refine sFor ?_
  refine cT2 (id := "range") ?_
  refine nmB S GL hm1 (by rfl) ?_
  refine ⟨rfl, ?_⟩
  refine cI S ?_; intro t1 s S
  refine cB1 (id := "len") ?_
  refine nmB S GL hm2 (by rfl) ?_
  refine ⟨rfl, ?_⟩
  refine nmL S rfl ?_
  refine lenL S (isLb S hnl) (by (first | lia | omega)) ?_; intro t2 s S
  refine rng2 S ?_; intro r v s S
  refine rngIt (k := nu.length - 1) S (by (first | lia | omega)) (by (first | lia | omega)) (by (first | lia | omega)) (by (first | lia | omega)) (by (first | lia | omega)) ?_; intro I2 s S
  refine forR hh' S rfl (fun i m zs => (m "queue" = some (.ref ql) ∧ m "names" = some (.ref nl) ∧ m "way" = some (.int way tw) ∧ m "under" = some (.ref U)) ∧
      ∃ as ex, zs = (U, lob (as.map (fun p => Value.ref p.1)) nU) :: (L + 1, o1) :: ex ∧ as.length = nms.length ∧ Und ex as ∧ ∀ j, j < as.length → (as.map (·.2)).getD j [] = undF sp i j)
    ⟨⟨rfl, rfl, rfl, rfl⟩, as, ex, rfl, hasl, hU, ?_⟩ ?_ ?_
  · intro j hj
    rw [has]
    simp [undF, show j < nu.length by (first | lia | omega)]
  · intro i tk m zs s io hlt hJ S
    refine hideQ2 ?_; intro Qb hQb
    obtain ⟨⟨m1, m2, m3, m4⟩, as, ex, rfl, hasl, hU, hund⟩ := hJ
    have hiq : i + 1 < q.length := by (first | lia | omega)
    obtain ⟨vq, hvq, tq, rfl⟩ := hq.get (i := i + 1) (b := q.getD (i + 1) 0) (by simp [hiq])
    have hspi := hsp (i + 1) (by (first | lia | omega)) hiq
    have hspe : ((i + 1 : Nat) : Int) - q.getD (i + 1) 0 - 1 = sp (i + 1) := by rw [← hsf]
    rw [hspe] at hspi
    rw [show (1 : Int) + (i : Int) = ((i + 1 : Nat) : Int) by (first | lia | omega)]
    refine asN ?_
    refine stL S ?_; intro s S
    obtain ⟨j, hj⟩ := Int.eq_ofNat_of_zero_le hspi.1
    have hjl : j < as.length := by (first | lia | omega)
    obtain ⟨a, ks⟩ : ∃ p : Addr × List Nat, True := ⟨as[j], trivial⟩
    clear a ks
    have hmem : as[j] ∈ as := List.getElem_mem hjl
    have hjs : (as.map (·.2)).getD j [] = as[j].2 := by simp [hjl]
    have hja : (as.map (fun p => Value.ref p.1))[j]? = some (.ref as[j].1) := by simp [hjl]
    have hset : ∀ x, as.set j x = as.take j ++ x :: as.drop (j + 1) := fun x => List.set_eq_take_append_cons_drop.trans (if_pos hjl)
    have hund0 := hund j hjl
    rw [hjs] at hund0
    have hgen : as.set j as[j] = as := List.set_getElem_self hjl
    generalize as[j] = pj at *
    obtain ⟨a, ks⟩ := pj
    simp only at hund0 hja
    subst hund0
    obtain ⟨vs, n, ham, hks⟩ := hU.2 _ hmem
    simp only at ham hks
    have hksl := hks.len
    have hul := undF_len sp i j
    refine sExp ?_
    refine meth ?_
    refine Subscript_ ?_
    refine nmL S (by exact m4) ?_
    refine wpAny_BinOp ?_
    refine wpAny_BinOp ?_
    refine nmL S rfl ?_
    refine Subscript_ ?_
    refine nmL S (by exact m1) ?_
    refine nmL S rfl ?_
    refine itL (isLb S hql) (by (first | lia | omega)) (by rw [Int.toNat_natCast]; exact hvq) ?_ (by (first | lia | omega))
    refine iSub S ?_; intro t3 s S
    refine cI S ?_; intro t4 s S
    refine iSub S ?_; intro t5 s S
    rw [hspe, hj]
    refine itL (isL S (.tail _ (.head _))) (by (first | lia | omega)) (v := .ref a) (by rw [Int.toNat_natCast]; exact hja) ?_ (by (first | lia | omega))
    refine gmAppend (S.get (.tail _ (.tail _ (.tail _ ham)))) ?_
    refine nmL S rfl ?_
    obtain ⟨ex', Ux, hkeep⟩ := Up.of (lob (vs ++ [.int ((i + 1 : Nat) : Int) tk]) (n + 1)) ham
    refine apL S (.tail (.tail (.tail Ux))) ?_ (by rw [hksl]; exact Nat.le_trans (show _ ≤ 100 by (first | lia | omega)) (by decide)); intro s S
    have hfst : (as.set j (a, undF sp (i + 1) j)).map (·.1) = as.map (·.1) := by
      rw [List.map_set, ← List.map_set (f := (·.1)) (l := as) (a := (a, undF sp i j))]
      rw [hgen]
    refine wpAny_execs_nil (hQb _ _ ?_)
    refine (.inl ⟨rfl, _, _, S, ⟨m1, m2, m3, m4⟩, as.set j (a, undF sp (i + 1) j), ex', ?_, by simp [hasl], ⟨by rw [hfst]; exact hU.1, ?_⟩, ?_⟩)
    · have : (as.set j (a, undF sp (i + 1) j)).map (fun p => Value.ref p.1) = ((as.set j (a, undF sp (i + 1) j)).map (·.1)).map Value.ref := by rw [List.map_map]; rfl
      rw [this, hfst, List.map_map]
      rfl
    · intro p hp
      rw [hset] at hp
      have hnd := hU.1
      rw [show as.map (·.1) = ((as.take j ++ (a, undF sp i j) :: as.drop (j + 1))).map (·.1) by rw [← hset, hgen]] at hnd
      rw [List.map_append, List.map_cons, List.nodup_append, List.nodup_cons] at hnd
      have other : ∀ p, p ∈ as → p.1 ≠ a → ∃ vs n, (p.1, lob vs n) ∈ ex' ∧ Fa IntN vs p.2 := by
        intro p hp hne
        obtain ⟨vs, n, h1, h2⟩ := hU.2 p hp
        exact ⟨vs, n, hkeep _ h1 hne, h2⟩
      rcases List.mem_append.mp hp with hp | hp
      · refine other p (List.mem_of_mem_take hp) fun e => ?_
        exact hnd.2.2 p.1 (List.mem_map_of_mem hp) a (.head _) e
      · rcases List.mem_cons.mp hp with rfl | hp
        · refine ⟨_, _, Ux.mem', ?_⟩
          rw [undF_succ, if_pos (by rw [hj]; simp)]
          exact hks.app (.cons ⟨tk, rfl⟩ .nil)
        · refine other p (List.mem_of_mem_drop hp) fun e => ?_
          exact hnd.2.1.1 (List.mem_map.mpr ⟨p, hp, e⟩)
    · intro j' hj'
      rw [List.length_set] at hj'
      by_cases hjj : j' = j
      · subst hjj
        simp [hj']
      · rw [undF_succ sp i j', if_neg (by rw [hj]; simp; (first | lia | omega)), List.append_nil, ← hund j' hj']
        simp [List.getElem?_set, Ne.symm hjj]
  rintro m zs s ⟨⟨m1, m2, m3, m4⟩, as, ex, rfl, hasl, hU, hund⟩ S
  rw [show nu.length - 1 = q.length - 1 by (first | lia | omega)] at hund
  refine sAsg ?_
  refine List_ ?_
  refine spC ?_
  refine Tuple_ ?_
  refine spC ?_
  refine cI S ?_; intro t3 s S
  refine spC ?_
  refine cI S ?_; intro t4 s S
  refine spN ?_
  refine nwT S ?_; intro q0 s S
  refine spN ?_
  refine nwL S ?_; intro tl s S
  refine stL S ?_; intro s S
  refine sAsg ?_
  refine List_ ?_
  refine spN ?_
  refine nwL S ?_; intro rl s S
  refine stL S ?_; intro s S
  replace S := S.perm (zs' := (rl, lob [] 0) :: (tl, lob [.ref q0] 0) :: (U, lob (as.map (fun p => Value.ref p.1)) nU) :: (L + 1, o1) :: (q0, tob [.int 0 t3, .int 0 t4]) :: ex) (.cons _ (.cons _ (List.perm_middle (l₁ := [_, _]))))
  refine sWhile (fun k s' => ∃ m tl vr nr vt nt od ys st out, (m "names" = some (.ref nl) ∧ m "way" = some (.int way tw) ∧ m "under" = some (.ref U) ∧ m "rows" = some (.ref rl) ∧ m "todo" = some (.ref tl)) ∧
      St (Bs.hid s₀ []) L m ((rl, lob vr nr) :: (tl, lob vt nt) :: (U, lob (as.map (fun p => Value.ref p.1)) nU) :: (L + 1, od) :: ys) s' ∧ (∃ v0, od.data = .cell v0) ∧ Und ys as ∧ Fa (PairN (In ys)) vt st ∧ Fa StrV vr (out.map (rdS nms)) ∧
      runR (undF sp (q.length - 1)) way k st out = some res ∧ out.length + k = 20 ∧ st.length ≤ 1 + 10 * out.length ∧ ∀ p ∈ st, p.1 < nms.length ∧ p.2 ≤ out.length) 20
    ⟨_, tl, [], 0, _, 0, o1, _, [(0, 0)], [], ⟨by exact m2, by exact m3, by exact m4, rfl, rfl⟩, S, ⟨_, hd1⟩, hU.mono fun p hp => .tail _ hp, .cons ⟨q0, t3, t4, rfl, .head _⟩ .nil, .nil, hres, rfl, by simp, fun p hp => by
      obtain rfl := List.mem_singleton.mp hp
      exact ⟨by show 0 < _; (first | lia | omega), Nat.le_refl 0⟩⟩ ?_
  clear S hU m1 m2 m3 m4
  intro k s hJ
  refine hideQ ?_; intro Qi hQi
  obtain ⟨m, tl, vr, nr, vt, nt, od, ys, st, out, ⟨m2, m3, m4, m5, m6⟩, S, ⟨v0, hod⟩, hU, hF, hR, hrun, hk, hst, hin⟩ := hJ
  have hvt := hF.len
  have hvr := hR.len
  rw [List.length_map] at hvr
  refine wpAny_isTrue_value ?_
  refine nmL S m6 ?_
  refine tL S (isL S (.tail _ (.head _))) (by (first | lia | omega)) ?_; intro s S
  obtain ⟨k, rfl⟩ : ∃ j, k = j + 1 := by
    cases k with
    | zero => exact absurd hrun (by simp [runR])
    | succ k => exact ⟨k, rfl⟩
  by_cases hemp : st = []
  · subst hemp
    cases hF
    refine hQi _ _ ?_
    rw [if_neg (by simp)]
    have : out = res := by simpa [runR] using hrun
    subst this
    refine sRet ?_
    refine nmL S m5 ?_
    refine hQf _ _ ?_
    exact ⟨_, _, rfl, S.grows, rl, vr, nr, rfl, .head _, hR⟩
  obtain ⟨vt1, vl, st1, p, rfl, rfl, hF1, t, ta, tb, rfl, hm⟩ := hF.snoc hemp
  refine hQi _ _ ?_
  rw [if_pos (by simp)]
  refine hideQ ?_; intro Qb hQb
  have hp := hin p (by simp)
  obtain ⟨i, d⟩ := p
  simp only at hp hm
  simp only [List.length_append, List.length_cons, List.length_nil] at hst hvt
  have hrun' : runR (undF sp (q.length - 1)) way k (st1 ++ (ordF way (undF sp (q.length - 1) i)).map (fun k => (k, d + 1))) (out ++ [(i, d)]) = some res := by
    rw [runR] at hrun
    simpa using hrun
  have hil : i < as.length := by (first | lia | omega)
  have hai : (as.map (fun p => Value.ref p.1))[i]? = some (.ref as[i].1) := by simp [hil]
  have hui := hund i hil
  have hai2 : (as.map (·.2)).getD i [] = as[i].2 := by simp [hil]
  rw [hai2] at hui
  obtain ⟨vk, nk, hkm, hks⟩ := hU.2 as[i] (List.getElem_mem hil)
  rw [hui] at hks
  generalize as[i] = ai at *
  obtain ⟨a, ks⟩ := ai
  simp only at hai hui hkm
  have hksl := hks.len
  have hul := undF_len sp (q.length - 1) i
  obtain ⟨vn, hvn, tn, rfl⟩ := hn.get (i := i) (b := nms.getD i default) (by simp [hp.1])
  have hnz : (nms.getD i default).length ≤ 10 := hsz _ (by rw [show nms.getD i default = nms[i] by simp [hp.1]]; exact List.getElem_mem hp.1)
  refine sTup ?_
  refine meth ?_
  refine nmL S (by exact m6) ?_
  refine gmL (S.get (.tail _ (.head _))) PySem.F.slot_list_pop PySem.F.type_list_pop ?_
  refine args0 ?_
  refine popL S (.tail .head) (by (first | lia | omega)) ?_; intro s S
  refine unT S hh' (isT S (.tail _ (.tail _ (.tail _ (.tail _ hm))))) rfl rfl ?_; intro s S
  refine aio ?_
  refine stL S ?_; intro s S
  refine aio ?_
  refine stC S (c := L + 1) rfl (fun o' => .tail (.tail (.tail .head))) hod ?_
  intro s od' hod' S
  refine aio0 ?_
  refine sExp ?_
  refine meth ?_
  refine nmL S (by exact m5) ?_
  refine gmAppend (S.get (.head _)) ?_
  refine wpAny_BinOp ?_
  refine wpAny_BinOp ?_
  refine cS S ?_; intro t5 s S
  refine wpAny_BinOp ?_
  refine nmC S (c := L + 1) (o := od') rfl (.tail _ (.tail _ (.tail _ (.head _)))) hod' ?_
  refine cI S ?_; intro t6 s S
  refine iAdd S ?_; intro t7 s S
  refine mulS S (by (first | lia | omega)) (by (first | lia | omega)) ?_; intro t8 s S
  rw [show ((d : Int) + 2).toNat = d + 2 by (first | lia | omega)]
  refine Subscript_ ?_
  refine nmL S (by exact m2) ?_
  refine nmL S rfl ?_
  refine itL (isLb S hnl) (by (first | lia | omega)) (v := .str (nms.getD i default) tn) (by rw [Int.toNat_natCast]; exact hvn) ?_ (by (first | lia | omega))
  refine addS S (by show (List.replicate (d + 2) 46).toArray.size + _ ≤ _; simp only [List.size_toArray, List.length_replicate]; (first | lia | omega)) ?_; intro t9 s S
  refine apL S .head ?_ (by rw [hvr]; exact Nat.le_trans (show _ ≤ 20 by (first | lia | omega)) (by decide)); intro s S
  refine sAsg ?_
  refine wpAny_BinOp ?_
  refine nmL S (by exact m6) ?_
  refine evLC S rfl ?_
  refine Subscript_ ?_
  refine Subscript_ ?_
  refine nmL S (by exact m4) ?_
  refine nmL S rfl ?_
  refine itL (isL S (.tail _ (.tail _ (.head _)))) (by (first | lia | omega)) (v := .ref a) (by rw [Int.toNat_natCast]; exact hai) ?_ (by (first | lia | omega))
  refine wpAny_Slice ?_
  refine wpAny_evalPart_none ?_
  refine wpAny_evalPart_none ?_
  refine wpAny_evalPart_some ?_
  refine wpAny_UnaryOp ?_
  refine nmL S (by exact m3) ?_
  refine iNeg S ?_; intro t10 s S
  refine slL S (isL S (.tail _ (.tail _ (.tail _ (.tail _ hkm))))) .none .none (.int _ _) (by rcases hway with rfl | rfl <;> decide) (by rw [hksl]; exact Nat.le_trans (show _ ≤ 10 by (first | lia | omega)) (by decide)) ?_
  intro Ds s S
  have hord := pick_ord hway hks
  generalize (slicePick vk.toArray none none (some (-way))).toList = vo at *
  have hordl := hord.len
  rw [ordF_len] at hordl
  refine itrL S (isL S (.head _)) ?_; intro I3 s S
  have b1 : (Bs.hid s [I3]).h.get? (L + 1) = some od' := S.hidO (.head _) (.tail _ (.tail _ (.tail _ (.tail _ (.tail _ (.head _)))))) (fun e => by rw [e] at hod'; cases hod')
  have b2 : (Bs.hid s [I3]).h.IsList Ds vo.toArray := ⟨_, S.hidO (.head _) (.tail _ (.head _)) (fun e => by injection e with e1; injection e1 with e1; exact absurd e1 (by decide)), rfl, 0, rfl⟩
  refine ⟨I3, _, _, vo.length, _, _, fun k acc ex => k ≤ vo.length ∧ Fa (PairN (In ex)) acc (((ordF way (undF sp (q.length - 1) i)).take k).map (fun k => (k, d + 1))), rfl, S, ⟨rfl, rfl⟩, Itr.list vo hh' b2, ⟨by (first | lia | omega), .nil⟩, ?_, ?_, ?_⟩
  · rintro k acc ex ⟨hk, hf⟩
    rw [hf.len]
    simp
    (first | lia | omega)
  · rintro C D k v acc n' ex m₁ s io₁ hk hv ⟨_, hf⟩ S
    have hko : k < (ordF way (undF sp (q.length - 1) i)).length := by rw [ordF_len]; (first | lia | omega)
    obtain ⟨v', hv', tk, rfl⟩ := hord.get (i := k) (b := (ordF way (undF sp (q.length - 1) i))[k]) (by simp [hko])
    obtain rfl : v = .int _ tk := Option.some.inj (hv.symm.trans hv')
    refine asN ?_
    refine gsL S ?_; intro s S
    refine forIn0 ?_
    rw [if_pos rfl]
    refine Tuple_ ?_
    refine spC ?_
    refine gnL S rfl ?_
    refine spC ?_
    refine wpAny_BinOp ?_
    refine gnC (c := L + 1) (S.base b1) hod' ?_
    refine cI S ?_; intro t11 s S
    refine iAdd S ?_; intro t12 s S
    refine spN ?_
    refine nwT S ?_; intro qk s S
    refine ⟨_, _, S.down2, by (first | lia | omega), ?_⟩
    rw [List.take_succ_eq_append_getElem hko, List.map_append]
    exact (hf.mono fun v p ⟨t, a, b, e, hm⟩ => ⟨t, a, b, e, .tail _ hm⟩).app (.cons ⟨qk, tk, t12, rfl, .head _⟩ .nil)
  rintro D acc n' ex2 s ⟨_, hacc⟩ S
  rw [List.take_of_length_le (by rw [ordF_len]; (first | lia | omega))] at hacc
  have haccl := hacc.len
  rw [List.length_map, ordF_len] at haccl
  refine addL S (isL S (.tail _ (List.mem_append_right _ (.tail _ (.tail _ (.head _)))))) (isL S (.head _)) (by (first | lia | omega)) ?_; intro D2 s S
  refine stL S ?_; intro s S
  replace S := S.sub (zs' := ((D2, lob (vt1 ++ acc) 0) :: ex2) ++ ((rl, lob (vr ++ [.str (dotsS (d + 2) ++ nms.getD i default) t9]) (nr + 1)) :: (U, lob (as.map (fun p => Value.ref p.1)) nU) :: (L + 1, od') :: ys))
    (.cons_cons _ (.cons _ (List.Sublist.append (List.Sublist.refl _) (.cons _ (.cons_cons _ (.cons _ (List.Sublist.refl _)))))))
  replace S := S.front3
  replace S := S.perm (zs' := (rl, lob (vr ++ [.str (dotsS (d + 2) ++ nms.getD i default) t9]) (nr + 1)) :: (D2, lob (vt1 ++ acc) 0) :: (U, lob (as.map (fun p => Value.ref p.1)) nU) :: (L + 1, od') :: (ex2 ++ ys)) (.cons _ (List.perm_middle (l₁ := [_, _])).symm)
  refine wpAny_execs_nil (hQb _ _ ?_)
  refine ⟨rfl, k, by (first | lia | omega), _, D2, _, nr + 1, _, 0, od', ex2 ++ ys, _, _, ⟨by exact m2, by exact m3, by exact m4, by exact m5, rfl⟩, S, ⟨_, hod'⟩, hU.mono fun p hp => List.mem_append_right _ hp, ?_, ?_, hrun', by simp; (first | lia | omega), by simp [ordF_len]; (first | lia | omega), ?_⟩
  · exact (hF1.mono fun v p ⟨t, a, b, e, hm⟩ => ⟨t, a, b, e, List.mem_append_right _ hm⟩).app (hacc.mono fun v p ⟨t, a, b, e, hm⟩ => ⟨t, a, b, e, List.mem_append_left _ hm⟩)
  · rw [List.map_append]
    exact hR.app (.cons ⟨t9, rfl⟩ .nil)
  · intro p hp'
    rw [List.length_append, List.length_singleton]
    rcases List.mem_append.mp hp' with h | h
    · have := hin p (List.mem_append_left _ h)
      (first | lia | omega)
    · obtain ⟨z, hz, rfl⟩ := List.mem_map.mp h
      have := undF_mem (ordF_mem hz)
      simp only
      (first | lia | omega)
end
end Mine
end
section
open PySem PySem.W PyProof.Rows PySem.Calls
set_option maxRecDepth 100000
set_option maxHeartbeats 2000000
namespace Mine
/-- two values are found equal -/
def EqW (w : World) (s : Shared) (k : Nat) (v y : Value) : Prop := ∀ (A : Around) (E : Value → Shared → Prop) (Q : Bool → Shared → Prop), A.units + k < cLine → Q true s → wpAny (model prog w) A (eqBool v y) Q E s
section
variable {w : World} {A : Around} {E : Value → Shared → Prop} {s : Shared}
theorem eqwInt {i : Int} {t u : Tok} {k : Nat} : EqW w s k (.int i t) (.int i u) := fun A E Q _ hq => SeqAt.EqAt.int_int (A := A) (s := s) i t i u prog w E Q (by simpa using hq)
/-- by the objects' own comparison -/
theorem eqwRef {a b : Addr} {k : Nat} (h : ∀ (A : Around) (E : Value → Shared → Prop) (Q : Value → Shared → Prop), A.units + k < cLine → Q (.bool true) s → wpAny (model prog w) A (richCompare .Eq (.ref a) (.ref b)) Q E s) : EqW w s k (.ref a) (.ref b) := by
  intro A E Q hu hq
  unfold eqBool
  refine wpAny_holding ?_
  by_cases e : (Value.ref a == Value.ref b) = true
  · rw [if_pos e]
    exact wpAny_bind (wpAny_rule (wpAny_pure hq))
  · rw [if_neg e]
    exact wpAny_bind (h A E _ hu (wpAny_truthy_bool hq))
theorem pairsLoop {k : Nat} {Q : Option PySem.Fin × Unit → Shared → Prop} {body : Value × Value → Option PySem.Fin × Unit → Sem (ForInStep (Option PySem.Fin × Unit))}
    (hb : ∀ x y (R : ForInStep (Option PySem.Fin × Unit) → Shared → Prop), EqW w s k x y → R (.yield (none, ())) s → wpAny (model prog w) A (body (x, y) (none, ())) R E s) :
    ∀ {xs ys : List Value}, Fa (EqW w s k) xs ys → Q (none, ()) s → wpAny (model prog w) A (forIn (xs.zip ys) (none, ()) body) Q E s := by
  intro xs ys h hq
  induction h with
  | nil => exact wpAny_pure hq
  | cons hx _ ih =>
    rw [List.zip_cons_cons, List.forIn_cons]
    exact wpAny_bind (hb _ _ _ hx ih)
/-- two tuples whose items are equal one by one -/
theorem eqwTup {a b : Addr} {xs ys : List Value} {k : Nat} (ha : IsTup s.heap a xs.toArray) (hb : IsTup s.heap b ys.toArray) (h : Fa (EqW w s k) xs ys) : EqW w s (k + 2) (.ref a) (.ref b) := by
  refine eqwRef fun A E Q hu hq => ?_
  obtain ⟨oa, hoa, hca, na, hda⟩ := ha
  obtain ⟨ob, hob, hcb, nb, hdb⟩ := hb
  have hl := h.len
  have hTa : s.TypeIs (.ref a) "tuple" := ⟨oa, hoa, hca⟩
  have hTb : s.TypeIs (.ref b) "tuple" := ⟨ob, hob, hcb⟩
  refine wpAny_richCompare_same_room (op := .Eq) hTa hTb PySem.F.slot_tuple_eq (wpAny_call_entry PySem.F.slot_tuple_eq hTa PySem.F.entry_tuple_eq ?_ (PySem.F.args_tuple_eq_2 _ _)) (by (first | lia | omega))
  show wpAny _ _ (isInstance (.ref b) (.type "tuple") >>= _) _ _ s
  refine wpAny_bind (wpAny_isInstance hTb isSubtype_tuple_tuple ?_)
  simp only [Bool.not_true, Bool.false_eq_true, if_false]
  refine wpAny_bind (wpAny_tupleItemsOf hoa hda ?_)
  refine wpAny_bind (wpAny_tupleItemsOf hob hdb ?_)
  refine wpAny_bind (pairsLoop (k := k) (fun x y R hxy hR => ?_) h ?_)
  · refine wpAny_bind (hxy _ _ _ (by show A.units + 1 + k < cLine; (first | lia | omega)) ?_)
    rw [if_neg (by simp)]
    exact wpAny_pure hR
  · refine wpAny_pure ⟨.bool true, ?_, ⟨(fun e => nomatch e), hq⟩⟩
    show PySem.Fin.done (.ret (.bool (xs.toArray.size == ys.toArray.size))) = _
    rw [show (xs.toArray.size == ys.toArray.size) = true by simp [hl]]
/-- two dicts by texts: each of the one's entries stands in the other, equal -/
theorem samePairsW {nm : String} {a b : Addr} {ka kb : List (Str × Value)} {k : Nat} {Q : Bool → Shared → Prop} (la : (a == sysModules) = false) (lb : (b == sysModules) = false)
    (da : DOf w s.heap a ka) (db : DOf w s.heap b kb) (hl : ka.length = kb.length) (hu : A.units + k < cLine) (hits : ∀ x v, (x, v) ∈ ka → ∃ y, valueAt kb x = some y ∧ EqW w s k v y) (h : Q true s) :
    wpAny (model prog w) A (Builtin.Dict.samePairs nm a b) Q E s := by
  obtain ⟨oa, es, ep, hoa, _, hda, hka, hpa, _⟩ := da
  obtain ⟨ob, es', ep', hob, _, hdb, hkb, hpb, _⟩ := db
  have hla : ka.length = es.size := by rw [← hpa.length]; exact Array.length_toList
  have hlb : kb.length = es'.size := by rw [← hpb.length]; exact Array.length_toList
  have hsz : es.size = es'.size := by (first | lia | omega)
  unfold Builtin.Dict.samePairs Builtin.Dict.showsAll
  simp only [la, lb, Bool.false_eq_true, if_false]
  refine wpAny_bind (wpAny_pure ?_)
  refine wpAny_bind (wpAny_pure ?_)
  refine wpAny_bind (wpAny_dictEntries hoa hda ?_)
  refine wpAny_bind (wpAny_dictEntries hob hdb ?_)
  rw [if_neg (by rw [hsz]; simp)]
  refine wpAny_bind (wpAny_dictEpoch hoa hda ?_)
  refine wpAny_bind ?_
  rw [Std.Legacy.Range.forIn_eq_forIn_range']
  simp only [Std.Legacy.Range.size, Nat.sub_zero, Nat.add_sub_cancel, Nat.div_one]
  refine wpAny_forIn_list _ (fun rest q s' => s' = s ∧ q = (none, ()) ∧ ∀ i ∈ rest, i < es.size) _ ?_ ?_ _ _ ⟨rfl, rfl, fun i hi => by have := List.mem_range'_1.mp hi; (first | lia | omega)⟩
  · rintro i rest q s' ⟨rfl, rfl, hin⟩
    have hi := hin i (.head _)
    have hik : i < ka.length := by (first | lia | omega)
    refine wpAny_bind (wpAny_dictEntries hoa hda ?_)
    rw [Array.getElem?_eq_getElem hi]
    obtain ⟨hkey, hval⟩ := hpa.get? (i := i) (e := es[i]) (k := ka[i].1) (v := ka[i].2) (by simp [hi]) (by simp [hik])
    obtain ⟨k', hk', hh⟩ := hka es[i] (Array.getElem_mem hi)
    have ekk := (PySem.strKind prog w).inj _ _ _ hk' hkey
    rw [ekk] at hh
    obtain ⟨y, hy, he⟩ := hits ka[i].1 ka[i].2 (List.getElem_mem hik)
    refine wpAny_bind (wpAny_holding ?_)
    rw [hh]
    refine wpAny_bind (wpAny_dictFind_of hkey hob hdb hkb ?_)
    have hfb : findBy (PySem.strKind prog w).is es' ka[i].1 = some y := by
      rw [← hy, ← hpb.find ka[i].1]
      unfold findBy
      rw [Array.find?_toList]
    rw [findBy_of_findIdx?] at hfb
    cases hj : es'.findIdx? fun e => (PySem.strKind prog w).is ka[i].1 e.key with
    | none => rw [hj] at hfb; cases hfb
    | some j =>
      rw [hj] at hfb
      simp only at hfb
      obtain ⟨e2, he2, hv2⟩ := Option.map_eq_some_iff.mp hfb
      refine wpAny_bind (wpAny_dictEntries hob hdb ?_)
      rw [he2]
      refine wpAny_holding ?_
      rw [hval, hv2]
      refine he _ _ _ hu ?_
      rw [if_neg (by simp)]
      refine wpAny_bind (wpAny_dictEpoch hoa hda ?_)
      rw [if_neg (by simp)]
      exact wpAny_pure ⟨rfl, rfl, fun i hi => hin i (.tail _ hi)⟩
  · rintro q s' ⟨rfl, rfl, _⟩
    exact wpAny_pure h
theorem eqwDict {a b : Addr} {ka kb : List (Str × Value)} {k : Nat} (la : (a == sysModules) = false) (lb : (b == sysModules) = false)
    (da : DOf w s.heap a ka) (db : DOf w s.heap b kb) (hl : ka.length = kb.length) (hits : ∀ x v, (x, v) ∈ ka → ∃ y, valueAt kb x = some y ∧ EqW w s k v y) : EqW w s (k + 2) (.ref a) (.ref b) := by
  refine eqwRef fun A E Q hu hq => ?_
  refine wpAny_richCompare_same_room (op := .Eq) da.typeIs db.typeIs PySem.F.slot_dict_eq (wpAny_call_entry PySem.F.slot_dict_eq da.typeIs PySem.F.entry_dict_eq ?_ (PySem.F.args_dict_eq_2 _ _)) (by (first | lia | omega))
  show wpAny _ _ (Builtin.Dict.dictSlotArgs "__eq__" ⟨[.ref a, .ref b], []⟩ >>= _) _ _ s
  refine wpAny_bind ?_
  unfold Builtin.Dict.dictSlotArgs
  refine wpAny_bind (wpAny_notOrdered_dict da.typeIs ?_)
  refine wpAny_bind (m := (pure (Value.ref a, [Value.ref b]) : Sem (Value × List Value))) ?_
  refine wpAny_pure (wpAny_pure ?_)
  refine wpAny_bind (wpAny_isInstance (T := "dict") db.typeIs PySem.F.sub_dict_dict ?_)
  simp only [Bool.not_true, Bool.false_eq_true, if_false]
  refine wpAny_bind (wpAny_pure ?_)
  refine wpAny_bind (wpAny_pure ?_)
  refine wpAny_bind (samePairsW la lb da db hl (k := k) (by show A.units + 1 + k < cLine; (first | lia | omega)) hits ?_)
  exact wpAny_pure ⟨.bool true, rfl, ⟨(fun e => nomatch e), hq⟩⟩
theorem neDict {a b : Addr} {ka kb : List (Str × Value)} {k : Nat} {Q : Value → Shared → Prop} (la : (a == sysModules) = false) (lb : (b == sysModules) = false)
    (da : DOf w s.heap a ka) (db : DOf w s.heap b kb) (hl : ka.length = kb.length) (hits : ∀ x v, (x, v) ∈ ka → ∃ y, valueAt kb x = some y ∧ EqW w s k v y) (hu : A.units + (k + 2) < cLine) (hq : Q (.bool false) s) :
    wpAny (model prog w) A (compareOp .NotEq (.ref a) (.ref b)) Q E s := by
  refine wpAny_richCompare_same_room (op := .NotEq) da.typeIs db.typeIs PySem.F.slot_dict_ne (wpAny_call_entry PySem.F.slot_dict_ne da.typeIs PySem.F.entry_dict_ne ?_ (PySem.F.args_dict_ne_2 _ _)) (by (first | lia | omega))
  show wpAny _ _ (Builtin.Dict.dictSlotArgs "__ne__" ⟨[.ref a, .ref b], []⟩ >>= _) _ _ s
  refine wpAny_bind ?_
  unfold Builtin.Dict.dictSlotArgs
  refine wpAny_bind (wpAny_notOrdered_dict da.typeIs ?_)
  refine wpAny_bind (m := (pure (Value.ref a, [Value.ref b]) : Sem (Value × List Value))) ?_
  refine wpAny_pure (wpAny_pure ?_)
  refine wpAny_bind (wpAny_isInstance (T := "dict") db.typeIs PySem.F.sub_dict_dict ?_)
  simp only [Bool.not_true, Bool.false_eq_true, if_false]
  refine wpAny_bind (wpAny_pure ?_)
  refine wpAny_bind (wpAny_pure ?_)
  refine wpAny_bind (samePairsW la lb da db hl (k := k) (by show A.units + 1 + k < cLine; (first | lia | omega)) hits ?_)
  exact wpAny_pure ⟨.bool false, rfl, ⟨(fun e => nomatch e), hq⟩⟩
/-- the two readings of one entry -/
def SameE (x y : En) : Prop := x.cc = y.cc ∧ x.nc = y.nc ∧ x.tt = y.tt ∧ x.ct = y.ct ∧ x.cd.length = y.cd.length ∧ ∀ n i, (n, i) ∈ x.cd → vI y.cd n = some i
def SameB (x y : List (Str × En)) : Prop := x.length = y.length ∧ ∀ n e, (n, e) ∈ x → ∃ e', vI y n = some e' ∧ SameE e e'
theorem Fa.mem {α β : Type} {R : α → β → Prop} {l : List α} {k : List β} (h : Fa R l k) : ∀ {a}, a ∈ l → ∃ b, b ∈ k ∧ R a b := by
  induction h with
  | nil => intro a h; cases h
  | cons x _ ih =>
    intro a ha
    rcases List.mem_cons.mp ha with rfl | ha
    · exact ⟨_, .head _, x⟩
    · obtain ⟨b, hb, hr⟩ := ih ha
      exact ⟨b, .tail _ hb, hr⟩
theorem eqwEn {v y : Value} {e f : En} (h1 : EnV w (On s.heap) v e) (h2 : EnV w (On s.heap) y f) (h : SameE e f) : EqW w s 4 v y := by
  obtain ⟨t, a1, a2, a3, a4, dd, o, kv, rfl, g1, g2, g3, g4, g5⟩ := h1
  obtain ⟨u, b1, b2, b3, b4, ee, p, kw, rfl, k1, k2, k3, k4, k5⟩ := h2
  obtain ⟨c1, c2, c3, c4, c5, c6⟩ := h
  refine eqwTup (k := 2) ⟨_, g1, rfl, 0, rfl⟩ ⟨_, k1, rfl, 0, rfl⟩ ?_
  rw [c1, c2, c3, c4]
  refine .cons eqwInt (.cons eqwInt (.cons eqwInt (.cons eqwInt (.cons ?_ .nil))))
  refine eqwDict (k := 0) g4 k4 (Heap.dictOf_iff.mpr ⟨_, g2, g3⟩) (Heap.dictOf_iff.mpr ⟨_, k2, k3⟩) (by rw [g5.len, k5.len, c5]) ?_
  intro x v hv
  obtain ⟨⟨n, i⟩, hm, hn, t, rfl⟩ := g5.mem hv
  simp only at hn
  subst hn
  have := c6 _ _ hm
  rcases k5.valueAt x with ⟨h1, _⟩ | ⟨i', y, h1, h2, t', rfl⟩
  · rw [h1] at this; cases this
  · rw [h1] at this
    obtain rfl := Option.some.inj this
    exact ⟨_, h2, eqwInt⟩
theorem neBooks {a b : Addr} {ka kb : List (Str × Value)} {x y : List (Str × En)} {Q : Value → Shared → Prop} (la : (a == sysModules) = false) (lb : (b == sysModules) = false)
    (da : DOf w s.heap a ka) (db : DOf w s.heap b kb) (hx : Fa (KVr (EnV w (On s.heap))) ka x) (hy : Fa (KVr (EnV w (On s.heap))) kb y) (h : SameB x y) (hu : A.units + 6 < cLine) (hq : Q (.bool false) s) :
    wpAny (model prog w) A (compareOp .NotEq (.ref a) (.ref b)) Q E s := by
  refine neDict (k := 4) la lb da db (by rw [hx.len, hy.len, h.1]) ?_ hu hq
  intro n v hv
  obtain ⟨⟨n', e⟩, hm, hn, hR⟩ := hx.mem hv
  simp only at hn hR
  subst hn
  obtain ⟨e', h1, h2⟩ := h.2 _ _ hm
  rcases hy.valueAt n with ⟨g1, _⟩ | ⟨f, y, g1, g2, g3⟩
  · rw [g1] at h1; cases h1
  · rw [g1] at h1
    obtain rfl := Option.some.inj h1
    exact ⟨_, g2, eqwEn hR g3 h2⟩
end
end Mine
end
section
open PySem PySem.W PyProof.Rows PySem.Calls
set_option maxRecDepth 100000
set_option maxHeartbeats 2000000
namespace Mine
/-- a sort's questions answered -/
def runC {α : Type} (n : Nat) (ans : Nat → Nat → Bool) : KasT α → Option α
  | .ret a => some a
  | .ask i j k => if i < n ∧ j < n then runC n ans (k (ans i j)) else none
def lexB (k : Nat → Int × Int) (i j : Nat) : Bool := if (k i).1 = (k j).1 then decide ((k i).2 < (k j).2) else decide ((k i).1 < (k j).1)
theorem Up.toUpdF {a : Addr} {o : Obj} {pre post : List (Addr × Obj)} (nd : ((pre ++ (a, o) :: post).map (·.1)).Nodup) : UpdF a o (pre ++ (a, o) :: post) (fun o' => pre ++ (a, o') :: post) := by
  induction pre with
  | nil =>
    refine .head fun p hp e => ?_
    rw [List.nil_append, List.map_cons, List.nodup_cons] at nd
    exact nd.1 (List.mem_map.mpr ⟨p, hp, e⟩)
  | cons q pre ih =>
    rw [List.cons_append, List.map_cons, List.nodup_cons] at nd
    refine .tail (fun e => nd.1 ?_) (ih nd.2)
    exact List.mem_map.mpr ⟨(a, o), List.mem_append_right _ (.head _), e.symm⟩
section
variable {w : World} {A : Around} {E : Value → Shared → Prop} {s : Shared} {B : Bs} {L : Addr} {m mg : Str → Option Value} {zs : List (Addr × Obj)} {env : Env}
theorem kasRun {α : Type} {n : Nat} {ans : Nat → Nat → Bool} {κ : SortKind} {ks : List Value} {Q : α → Shared → Prop} (hask : ∀ i j (C : Bool → Shared → Prop), i < n → j < n → C (ans i j) s → kas_ask prog w A κ ks i j C s) :
    ∀ (t : KasT α) {r : α}, runC n ans t = some r → Q r s → t.kasWp (kas_ask prog w A κ ks) Q s
  | .ret a, r, h, hq => by
    obtain rfl : a = r := Option.some.inj h
    exact hq
  | .ask i j k, r, h, hq => by
    unfold runC at h
    by_cases c : i < n ∧ j < n
    · rw [if_pos c] at h
      exact hask i j _ c.1 c.2 (kasRun hask (k (ans i j)) h hq)
    · rw [if_neg c] at h
      cases h
/-- the ints of a range, taken up in a list -/
theorem collectR {r : Addr} {n : Nat} {t u v : Tok} {Q : List Value → Shared → Prop} (S : St B L m zs s) (hh : A.handled = none) (hr : (r, ({ cls := .type "range", data := .fields #[.int 0 t, .int n u, .int 1 v] } : Obj)) ∈ zs) (hn : n ≤ 1000)
    (h : ∀ vs s', Fa IntN vs (List.range n) → St B L m zs s' → Q vs s') : wpAny (model prog w) A (collect (.ref r)) Q E s := by
  have hr0 := S.get hr
  have hrlt := Heap.lt_size hr0
  unfold collect
  refine wpAny_bind (wpAny_runValue (codeAny_builtin entry_proto_collect' ?_))
  rw [Around.under_plainId PySem.F.plain_proto_collect _]
  show wpAny _ A.in1 (newList [] >>= fun l => again (.builtin "list.__iadd__" ⟨[l, .ref r], []⟩)) _ _ s
  refine wpAny_bind (wpAny_newObj_type ?_)
  refine wpAny_pure ⟨plainId_quiet PySem.F.plain_list_iadd _, codeAny_builtin entry_list_iadd' ?_⟩
  rw [Around.under_plainId PySem.F.plain_list_iadd _]
  have S1 := S.alloc (lob [] 0) s.toks
  have hsz : Builtin.Range.rangeSize 0 (n : Int) 1 = n := by rw [rangeSize_nat]; (first | lia | omega)
  show wpAny _ A.in1 (Builtin.List.listExtendWith (.ref s.heap.objs.size) (.ref r) (.ref s.heap.objs.size)) _ _ _
  have key := wpAny_extend_range (prog := prog) (w := w) (A := A) (s := { s with heap := s.heap.push (lob [] 0) }) (r := r) (a := 0) (b := n) (c := 1) (t := t) (u := u) (v := v) (n := n) hh (S1.get (.tail _ hr)) (small_one (by (first | lia | omega)) (by (first | lia | omega)) (by (first | lia | omega)) (by (first | lia | omega))) hsz (by (first | lia | omega)) s.heap.objs.size (.ref s.heap.objs.size) 0 (S1.get (.head _))
    (R := fun q s' => ∃ vs c, q = .ok (.ret (.ref s.heap.objs.size)) ∧ s'.heap.get? s.heap.objs.size = some { cls := .type "list", data := .seq vs c } ∧ Fa IntN vs.toList (List.range n) ∧ St B L m zs s')
    (fun h' tk acc' c' hk hS' hacc => ⟨acc', c', rfl, hS', ?_, ?_⟩)
  · refine wpAny_mono key (fun fin s' x => ?_) fun e s' x => ?_
    · cases fin with
      | done f =>
        obtain ⟨vs, c, e, ho, hF, S'⟩ := x
        cases e
        show wpAny _ A (load s.heap.objs.size >>= _) _ _ _
        exact wpAny_bind (wpAny_load ho (wpAny_pure (h _ _ hF S')))
      | again c₁ =>
        refine ⟨x.1, codeAny_mono x.2 fun q s₂ y => ?_⟩
        obtain ⟨vs, c, e, ho, hF, S'⟩ := y
        subst e
        show wpAny _ A (load s.heap.objs.size >>= _) _ _ _
        exact wpAny_bind (wpAny_load ho (wpAny_pure (h _ _ hF S')))
    · obtain ⟨_, _, e', _⟩ := x
      cases e'
  · have : ∀ (k : Nat) (vs : List Value), vs.length = k → (∀ i (hi : i < k), ∃ t, vs[i]? = some (.int i t)) → Fa IntN vs (List.range k) := by
      intro k
      induction k with
      | zero => intro vs hv _; rw [List.length_eq_zero_iff.mp hv]; exact .nil
      | succ k ih =>
        intro vs hv hi
        rw [List.range_succ]
        obtain ⟨t, ht⟩ := hi k (by (first | lia | omega))
        have e : vs = vs.take k ++ [.int k t] := by
          have hk : k < vs.length := by (first | lia | omega)
          have := List.take_succ_eq_append_getElem hk
          rw [List.getElem?_eq_getElem hk] at ht
          rw [Option.some.inj ht] at this
          rw [← this, List.take_of_length_le (by (first | lia | omega))]
        rw [e]
        refine (ih (vs.take k) (by simp; (first | lia | omega)) fun i h => ?_).app (.cons ⟨t, rfl⟩ .nil)
        obtain ⟨t', ht'⟩ := hi i (by (first | lia | omega))
        exact ⟨t', by rw [List.getElem?_take, if_pos h]; exact ht'⟩
    refine this n acc'.toList (by rw [Array.length_toList]; exact hacc.1) fun i hi => ?_
    have hi' : i < acc'.size := by rw [hacc.1]; exact hi
    obtain ⟨t, ht⟩ := hacc.2 i _ (Array.getElem?_eq_getElem hi')
    refine ⟨t, ?_⟩
    rw [Array.getElem?_toList, Array.getElem?_eq_getElem hi', ht]
    simp
  · exact S.ext1 (fun b o hb e => hk b o hb (Heap.get?_push_of_some _ e)) tk
theorem St.mem (S : St B L m zs s) {zs' : List (Addr × Obj)} (h : ∀ p ∈ zs', p ∈ zs) (nd : (zs'.map (·.1)).Nodup) : St B L m zs' s := ⟨S.F, fun p hp => S.N p (h p hp), nd, S.G, S.O⟩
def KeyV (kf : Nat → Int × Int) (R : Addr → Obj → Prop) (v : Value) (i : Nat) : Prop := ∃ q a b, v = .ref q ∧ R q (tob [.int (kf i).1 a, .int (kf i).2 b])
theorem St.put {a : Addr} {o o' : Obj} {pre post : List (Addr × Obj)} (S : St B L m (pre ++ (a, o) :: post) s) {h' : Heap} (F' : Fr B.h L h' m) (N' : News B.h L h' (pre ++ (a, o') :: post)) : St B L m (pre ++ (a, o') :: post) { s with heap := h' } :=
  ⟨F', N', by have := S.nd; simpa using this, S.G, S.O⟩
theorem askGo {kf : Nat → Int × Int} {n : Nat} {ks : List Value} {i j : Nat} {C : Bool → Shared → Prop} (hF : Fa (KeyV kf (On s.heap)) ks (List.range n)) (hi : i < n) (hj : j < n) (hC : C (lexB kf i j) s) : kas_ask prog w A (tuples' true) ks i j C s := by
  obtain ⟨v, hv, q, a, b, rfl, hq⟩ := hF.get (i := i) (b := i) (by simp [hi])
  obtain ⟨v', hv', q', a', b', rfl, hq'⟩ := hF.get (i := j) (b := j) (by simp [hj])
  unfold kas_ask
  rw [show ks.getD i Value.none = .ref q by simp [hv], show ks.getD j Value.none = .ref q' by simp [hv']]
  refine kat_lt hq rfl hq' rfl ?_
  show KatLex prog w A true _ C [(.int (kf i).1 a, .int (kf j).1 a'), (.int (kf i).2 b, .int (kf j).2 b')] 0 s
  unfold lexB at hC
  refine kat_cons (SeqAt.EqAt.int_int (A := A) (s := s) _ _ _ _ prog w _ _ ?_)
  by_cases e1 : (kf i).1 = (kf j).1
  · rw [if_pos e1] at hC
    rw [show ((kf i).1 == (kf j).1) = true by simpa using e1]
    refine kat_yes (kat_cons (SeqAt.EqAt.int_int (A := A) (s := s) _ _ _ _ prog w _ _ ?_))
    by_cases e2 : (kf i).2 = (kf j).2
    · rw [show ((kf i).2 == (kf j).2) = true by simpa using e2]
      refine kat_yes (kat_nil ?_)
      rw [show decide ((kf i).2 < (kf j).2) = false by simp; (first | lia | omega)] at hC
      exact hC
    · rw [show ((kf i).2 == (kf j).2) = false by simpa using e2]
      refine kat_no ?_
      exact kat_one _ _ (ltI hC)
  · rw [if_neg e1] at hC
    rw [show ((kf i).1 == (kf j).1) = false by simpa using e1]
    refine kat_no ?_
    exact oneLt_int hC
theorem keysGo {f kS D : Addr} {kf : Nat → Int × Int} {n : Nat} {e1 : Nat} {Fin : List Value → Nat → Shared → Prop}
    (hkey : ∀ (s' : Shared) zs' (i : Nat) t, St B L m zs' s' → (∀ p ∈ zs, p ∈ zs') → i < n → Tells w A (.ref f) ⟨[.int i t], []⟩ (fun v ys => KeyV kf (In ys) v i) s')
    (hfin : ∀ ks e s' zs', Fa (KeyV kf (In zs')) ks (List.range n) → (∀ p ∈ zs, p ∈ zs') → St B L m ((kS, seqObj "list" (List.toArray ks) e) :: (D, seqObj "list" #[] e1) :: zs') s' → Fin ks e s') :
    ∀ (k done : Nat) (r ks : List Value) (e : Nat) (s : Shared) (zs' : List (Addr × Obj)), done + k = n → Fa IntN r (List.range' done k) → St B L m ((kS, seqObj "list" (List.toArray ks) e) :: (D, seqObj "list" #[] e1) :: zs') s → (∀ p ∈ zs, p ∈ zs') → Fa (KeyV kf (In zs')) ks (List.range done) →
      KatKeys prog w A B.h L m kS (.ref f) Fin r ks e s
  | 0, done, r, ks, e, s, zs', hk, hr, S, hz, hF => by
    obtain rfl : done = n := by (first | lia | omega)
    cases hr
    exact KatKeys.nil (hfin ks e s zs' hF hz S)
  | k + 1, done, r, ks, e, s, zs', hk, hr, S, hz, hF => by
    rw [List.range'_succ] at hr
    cases hr with
    | @cons v _ r _ hv hr =>
    obtain ⟨t, rfl⟩ := hv
    refine KatKeys.cons (callC S (hkey s _ done t S (fun p hp => .tail _ (.tail _ (hz p hp))) (by (first | lia | omega))) ?_)
    rintro kv ys s' hkv S'
    refine KatBack.intro S'.F S'.N (Up.toUpdF S'.nd) ?_
    intro h' c F' N'
    have S2 := (S'.put F' N').front2
    refine keysGo hkey hfin k (done + 1) r (ks ++ [kv]) c _ (ys ++ zs') (by (first | lia | omega)) hr S2 (fun p hp => List.mem_append_right _ (hz p hp)) ?_
    rw [List.range_succ]
    refine (hF.mono fun v i ⟨q, a, b, e, hm⟩ => ⟨q, a, b, e, List.mem_append_right _ hm⟩).app (.cons ?_ .nil)
    obtain ⟨q, a, b, e, hm⟩ := hkv
    exact ⟨q, a, b, e, List.mem_append_left _ hm⟩
theorem tupsOf {h : Heap} {kf : Nat → Int × Int} {ks : List Value} {is : List Nat} (hF : Fa (KeyV kf (On h)) ks is) : ∃ fs, KatTups h ks fs ∧ fs.length = ks.length ∧ ∀ v ∈ fs, ∃ i t, v = .int i t := by
  induction hF with
  | nil => exact ⟨[], .nil, rfl, fun _ h => nomatch h⟩
  | cons x _ ih =>
    obtain ⟨q, a, b, rfl, hq⟩ := x
    obtain ⟨fs, h1, h2, h3⟩ := ih
    refine ⟨_ :: fs, .cons hq rfl rfl rfl h1, by simp [h2], ?_⟩
    intro v hv
    rcases List.mem_cons.mp hv with rfl | hv
    · exact ⟨_, _, rfl⟩
    · exact h3 v hv
/-- a range sorted by a key that gives two ints -/
theorem sortedR {r f : Addr} {n : Nat} {t u v : Tok} {p : Array Nat} {kf : Nat → Int × Int} {Q : Value → Shared → Prop} (S : St B L m zs s) (hh : A.handled = none) (hr : (r, ({ cls := .type "range", data := .fields #[.int 0 t, .int n u, .int 1 v] } : Obj)) ∈ zs) (h2 : 2 ≤ n) (h64 : n < 64)
    (hkey : ∀ (s' : Shared) zs' (i : Nat) t, St B L m zs' s' → (∀ p ∈ zs, p ∈ zs') → i < n → Tells w A.in1.in1 (.ref f) ⟨[.int i t], []⟩ (fun v ys => KeyV kf (In ys) v i) s')
    (hrun : runC n (lexB kf) (kas_sort n) = some p)
    (h : ∀ D vs c s', Fa IntN vs (List.range n) → St B L m ((D, lob (p.toList.map fun i => vs.getD i Value.none) c) :: zs) s' → Q (.ref D) s') :
    wpAny (model prog w) A (call (.builtin "sorted") [.ref r] [(Str.ofString "key", .ref f)]) Q E s := by
  refine call_function_entry_kw kind_sorted plain_sorted entry_sorted (ksk_s1 _ _) ?_
  unfold Builtin.«sorted»
  refine wpAny_bind (m := checkCount "sorted" 1 1 _) (wpAny_pure ?_)
  refine wpAny_bind (collectR (A := A.in1) S hh hr (by (first | lia | omega)) ?_)
  intro vs s hvs S
  have hvl := hvs.len
  rw [List.length_range] at hvl
  refine wpAny_bind (nwL S ?_ (by rw [hvl]; exact Nat.le_trans (show _ ≤ 64 by (first | lia | omega)) (by decide)))
  intro D s S
  have nd := S.nd
  rw [List.map_cons, List.nodup_cons] at nd
  have hD := S.N (D, lob vs 0) (.head _)
  refine wpAny_bind (wpAny_holding (wpAny_call_entry_kw slot_list_sort ⟨_, S.get (.head _), rfl⟩ entry_list_sort ?_ (ksk_l1 _ _)))
  rw [ksk_t1]
  refine kat_keyed (b := false) (news := zs) S.F S.drop1.N (S.get (.head _)) hD.2.1 hD.2.2 (fun p hp e => nd.1 (List.mem_map.mpr ⟨p, hp, e⟩)) (by (first | lia | omega)) (by (first | lia | omega)) ?_
  intro kS e1 h' F' N' hlt hlt2
  have S1 : St B L m ((kS, seqObj "list" #[] 0) :: (D, seqObj "list" #[] e1) :: zs) { s with heap := h' } := by
    refine ⟨F', N', ?_, S.G, S.O⟩
    simp only [List.map_cons, List.nodup_cons]
    refine ⟨fun hm => ?_, nd⟩
    rcases List.mem_cons.mp hm with e | hm
    · rw [e] at hlt; exact absurd hlt (Nat.lt_irrefl _)
    · obtain ⟨p, hp, e⟩ := List.mem_map.mp hm
      have := hlt2 p hp
      rw [e] at this; exact absurd this (Nat.lt_irrefl _)
  refine keysGo (zs := zs) (n := n) (e1 := e1) (kf := kf) hkey ?_ n 0 vs [] 0 _ zs (by (first | lia | omega)) (by rw [← List.range_eq_range']; exact hvs) S1 (fun p hp => hp) .nil
  intro ks e s' zs' hF hz S'
  have hks := hF.len
  rw [List.length_range] at hks
  have hFo : Fa (KeyV kf (On s'.heap)) ks (List.range n) := hF.mono fun v i ⟨q, a, b, e, hm⟩ => ⟨q, a, b, e, S'.get (.tail _ (.tail _ hm))⟩
  have hT := tupsOf hFo
  obtain ⟨fs, hT1, hT2, hT3⟩ := hT
  refine kat_kind (T := .type "int") hT1 (by (first | lia | omega)) (fun v hv => by obtain ⟨i, t, rfl⟩ := hT3 v hv; exact Looks.of_pure rfl) rfl ?_
  show (kas_sort vs.length).kasWp (kas_ask prog w A.in1.in1 (tuples' true) ks) _ s'
  rw [hvl]
  refine kasRun (ans := lexB kf) (n := n) (fun i j C hi hj hC => askGo (n := n) hFo hi hj hC) (kas_sort n) hrun ?_
  refine KatFin.intro S'.F S'.N (Up.toUpdF (pre := []) S'.nd) ?_
  intro h1 c1 F1 N1
  have S2 := S'.put (pre := []) F1 N1
  refine KasFin.intro S2.F S2.N (Up.toUpdF (pre := [_]) S2.nd) ?_
  intro h2 c2 F2 N2
  have S3 := S2.put (pre := [_]) F2 N2
  refine ⟨_, rfl, wpAny_pure ⟨_, rfl, ?_⟩⟩
  refine h D vs c2 _ hvs ?_
  refine S3.mem (fun p hp => ?_) (by rw [List.map_cons, List.nodup_cons]; exact nd)
  rcases List.mem_cons.mp hp with rfl | hp
  · exact .tail _ (.head _)
  · exact .tail _ (.tail _ (hz p hp))
end
end Mine
end
section
open PySem PySem.W PyProof.Rows PySem.Calls
set_option maxRecDepth 100000
set_option maxHeartbeats 2000000
namespace Mine
abbrev cell0 : Obj := { cls := .type "cell", data := .cell none }
def newEnv1 (scope : Scope) (cx : Str) (cl : List (Str × Addr)) (env : Env) : Sem Env := do
  let l ← alloc { cls := .type "dict", data := .dict #[] }
  let c ← alloc cell0
  pure { scope, locals := l, globals := env.globals, cells := (cx, c) :: cl, qual := env.qual, func := none, code := env.code, frame := env.frame, builtins := env.builtins }
section
variable {w : World} {A : Around} {E : Value → Shared → Prop} {s : Shared} {B : Bs} {L : Addr} {m mg : Str → Option Value} {zs : List (Addr × Obj)} {env : Env}
/-- a list comprehension with a cell of its own, from its iterator on -/
theorem lcompR1 {cx : Str} {RR : Value → Addr → Result → Shared → Prop} {tgt elt iter : Expr} {ifs : List Expr} {scope : Scope} {pos : Pos} {cl : List (Str × Addr)} {I : Addr} {io : Obj} {n : Nat} {Iter : Nat → Obj → Prop} {P : Nat → Value → Prop}
    (S : St B L m ((I, io) :: zs) s) (hio : Iter 0 io)
    (item : ∀ C i m' zs' s' io (Q : Option Value → Shared → Prop) (E : Value → Shared → Prop), i < n → Iter i io → St (Bs.hid s [I]) C m' ((I, io) :: zs') s' →
      (∀ v io' s'', P i v → Iter (i + 1) io' → St (Bs.hid s [I]) C m' ((I, io') :: zs') s'' → Q (some v) s'') → wpAny (model prog w) A (pyNext (.ref I)) Q E s')
    (fin : ∀ C m' zs' s' io (Q : Option Value → Shared → Prop) (E : Value → Shared → Prop), Iter n io → St (Bs.hid s [I]) C m' ((I, io) :: zs') s' →
      (∀ s'', St (Bs.hid s [I]) C m' zs' s'' → Q none s'') → wpAny (model prog w) A (pyNext (.ref I)) Q E s')
    (self : ∀ (s' : Shared) io (Q : Value → Shared → Prop) (E : Value → Shared → Prop), Iter 0 io → s'.heap.get? I = some io → Q (.ref I) s' → wpAny (model prog w) A (pyIter (.ref I)) Q E s')
    (lot : ∀ i io, Iter i io → ∃ k vs, io.cls = .type k ∧ io.data = .fields vs ∧ (["enumerate", "zip", "dict_itemiterator", "dict_reverseitemiterator", "odict_iterator", "itertools.zip_longest", "itertools.pairwise"].contains k) = false)
    (J : Addr → Nat → List Value → List (Addr × Obj) → Prop) (h0 : ∀ c, J c 0 [] [(c, cell0)]) (hJ : ∀ c i acc ex, J c i acc ex → acc.length ≤ 10000)
    (turn : ∀ ca C D i v acc n' ex m₁ s₁ io₁, i < n → P i v → J ca i acc ex → St (Bs.hid s [I]) C m₁ ((I, io₁) :: (D, lob acc n') :: ex) s₁ →
      wpAny (model prog w) A (assign tgt (compEnvC scope ((cx, ca) :: cl) C env) v) (fun _ s₂ => wpAny (model prog w) A (forIn ifs true fun c r => if r = true then do let ok ← isTrue c (compEnvC scope ((cx, ca) :: cl) C env) (eval c (compEnvC scope ((cx, ca) :: cl) C env)); pure (ForInStep.yield ok) else pure (ForInStep.yield r))
        (fun ok s₃ => if ok = true then wpAny (model prog w) A (eval elt (compEnvC scope ((cx, ca) :: cl) C env)) (fun x s₄ => ∃ m₂ ex₂, St (Bs.hid s [I]) C m₂ ((I, io₁) :: (D, lob acc n') :: ex₂) s₄ ∧ J ca (i + 1) (acc ++ [x]) ex₂) (fun _ _ => False) s₃
          else ∃ m₂ ex₂, St (Bs.hid s [I]) C m₂ ((I, io₁) :: (D, lob acc n') :: ex₂) s₃ ∧ J ca (i + 1) acc ex₂) (fun _ _ => False) s₂) (fun _ _ => False) s₁)
    (hQ : ∀ c C D acc n' ex m' s', J c n acc ex → s.heap.objs.size ≤ C → St (Bs.hid s [I]) C m' ((D, lob acc n') :: ex) s' → RR (.ref D) C (.ok .next) s')
    (hnew : newFunctionEnv scope env.globals cl [] env.qual none .none (some env) = newEnv1 scope cx cl env) :
    wpAny (model prog w) A (newList []) (fun acc s₃ => wpAny (model prog w) A (newFunctionEnv scope env.globals cl [] env.qual none .none (some env)) (fun cenv s₄ =>
      codeAny (model prog w) A (.compStart (.ListComp elt [⟨tgt, iter, ifs, 0⟩] scope pos) 0 (.ref I) acc { cenv with scope := relabel scope env }) (RR acc cenv.locals) s₄) E s₃) E s := by
  have hI := S.N (I, io) (.head _)
  have hIlt := Heap.lt_size hI.1
  rw [hnew]
  refine wpAny_newObj_type (wpAny_bind (wpAny_alloc ?_))
  refine wpAny_bind (wpAny_alloc (wpAny_pure ?_))
  dsimp only
  simp only [Heap.size_push]
  have z : ∀ (h : Heap) (o : Obj), (h.push o).objs.size = h.objs.size + 1 := fun _ _ => Heap.size_push ..
  generalize hH : ((s.heap.push { cls := .type "list", dict := none, data := .seq ([] : List Value).toArray }).push { cls := .type "dict", data := .dict #[] }).push cell0 = h₁
  have old : ∀ b o, s.heap.get? b = some o → h₁.get? b = some o := fun b o e => by
    rw [← hH]; exact Heap.get?_push_of_some _ (Heap.get?_push_of_some _ (Heap.get?_push_of_some _ e))
  have hD : h₁.get? s.heap.objs.size = some (lob [] 0) := by
    rw [← hH]; exact Heap.get?_push_of_some _ (Heap.get?_push_of_some _ (Heap.get?_push_size _ rfl))
  have hns : h₁.Ns (s.heap.objs.size + 1) (fun _ => none) := by
    have h1 := Heap.Ns.new (s.heap.push { cls := .type "list", dict := none, data := .seq ([] : List Value).toArray }) (.type "dict")
    rw [z] at h1
    rw [← hH]
    exact h1.keeps fun b o e => Heap.get?_push_of_some _ e
  have hc : h₁.get? (s.heap.objs.size + 1 + 1) = some cell0 := by
    rw [← hH]
    have := Heap.get?_push_size ((s.heap.push { cls := .type "list", dict := none, data := .seq ([] : List Value).toArray }).push { cls := .type "dict", data := .dict #[] }) (o := cell0) rfl
    rw [z, z] at this
    exact this
  have fresh : ∀ a, s.heap.objs.size ≤ a → (Bs.hid s [I]).h.get? a = none := fun a ha => by
    cases e : (Bs.hid s [I]).h.get? a with
    | none => rfl
    | some o' => exact absurd (Heap.lt_size (of_hideAll _ e)) (Nat.not_lt.mpr ha)
  have S4 : St (Bs.hid s [I]) (s.heap.objs.size + 1) (fun _ => none) [(I, io), (s.heap.objs.size, lob [] 0), (s.heap.objs.size + 1 + 1, cell0)] { s with heap := h₁ } := by
    refine ⟨⟨hns, fun b o e => old b o (of_hideAll _ e), by show (hideAll s.heap [I]).objs.size ≤ _; rw [hideAll_size]; (first | lia | omega)⟩, fun p hp => ?_, ?_, rfl, rfl⟩
    · rcases List.mem_cons.mp hp with rfl | hp
      · exact ⟨old _ _ hI.1, Nat.ne_of_lt (Nat.lt_succ_of_lt hIlt), hideAll_none _ (.head _)⟩
      · rcases List.mem_cons.mp hp with rfl | hp
        · exact ⟨hD, Nat.ne_of_lt (Nat.lt_succ_self _), fresh _ (Nat.le_refl _)⟩
        · obtain rfl := List.mem_singleton.mp hp
          exact ⟨hc, Nat.ne_of_gt (Nat.lt_succ_self _), fresh _ (by show s.heap.objs.size ≤ s.heap.objs.size + 1 + 1; (first | lia | omega))⟩
    · simp
      have hlt : I < s.heap.objs.size := hIlt
      exact ⟨⟨Nat.ne_of_lt hlt, Nat.ne_of_lt (Nat.lt_succ_of_lt (Nat.lt_succ_of_lt hlt))⟩, Nat.ne_of_lt (Nat.lt_succ_of_lt (Nat.lt_succ_self _))⟩
  have loop : ∀ s₄ : Shared, s₄ = { s with heap := h₁ } →
      codeAny (model prog w) A (.compLoop (.ListComp elt [⟨tgt, iter, ifs, 0⟩] scope pos) 0 (.ref I) (.ref s.heap.objs.size) (compEnvC scope ((cx, s.heap.objs.size + 1 + 1) :: cl) (s.heap.objs.size + 1) env)) (RR (.ref s.heap.objs.size) (s.heap.objs.size + 1)) s₄ := by
    rintro s₄ rfl
    refine compLoopG (fun k s' => ∃ i acc n' ex m' io', k + i = n ∧ J (s.heap.objs.size + 1 + 1) i acc ex ∧ Iter i io' ∧ St (Bs.hid s [I]) (s.heap.objs.size + 1) m' ((I, io') :: (s.heap.objs.size, lob acc n') :: ex) s') (fun k s' hK => ?_) n ⟨0, [], 0, _, _, io, rfl, h0 _, hio, S4⟩
    obtain ⟨i, acc, n', ex, m', io', hk, hj, hit, S'⟩ := hK
    by_cases hi : i < n
    · refine item _ i m' _ s' io' _ _ hi hit S' fun v io₁ s₁ hP hit₁ S₁ => ?_
      obtain ⟨kk, vs, l1, l2, l3⟩ := lot _ _ hit₁
      refine tupleGo (S₁.get (.head _)) l1 l2 l3 ?_
      refine wpAny_mono (turn _ _ _ i v acc n' ex m' s₁ io₁ hi hP hj S₁) (fun _ s₂ h₂ => wpAny_mono h₂ (fun ok s₃ h₃ => ?_) fun _ _ x => x) fun _ _ x => x
      cases ok with
      | false =>
        obtain ⟨m₂, ex₂, S₃, hj₃⟩ := h₃
        exact ⟨k - 1, by (first | lia | omega), i + 1, acc, n', ex₂, m₂, io₁, by (first | lia | omega), hj₃, hit₁, S₃⟩
      | true =>
        refine wpAny_mono h₃ (fun x s₄ h₄ => ?_) fun _ _ x => x
        obtain ⟨m₂, ex₂, S₄, hj₄⟩ := h₄
        refine apL S₄ (.tail .head) (fun s₅ S₅ => ?_) (Nat.le_trans (hJ _ _ _ _ hj) (by decide))
        exact ⟨k - 1, by (first | lia | omega), i + 1, acc ++ [x], n' + 1, ex₂, m₂, io₁, by (first | lia | omega), hj₄, hit₁, S₅⟩
    · obtain rfl : i = n := by (first | lia | omega)
      refine fin _ m' _ s' io' _ _ hit S' fun s₁ S₁ => ?_
      exact hQ _ _ _ acc n' ex m' s₁ hj (Nat.le_succ _) S₁
  exact codeAny_compStart_list (loop _ rfl) (self _ io _ _ hio (S4.get (.head _)) (loop _ rfl))
/-- the same, stored under a plain name -/
inductive LcGo1 (w : World) (A : Around) (env : Env) (scope : Scope) (cx : Str) (cl : List (Str × Addr)) (tgt elt : Expr) (ifs : List Expr) (B : Bs) (L : Addr) (m : Str → Option Value) (it : Value) (s₂ : Shared) (F : Addr → List (Addr × Obj) → Shared → Prop) : Prop
  | mk (I : Addr) (io : Obj) (zs₂ : List (Addr × Obj)) (n : Nat) (Iter : Nat → Obj → Prop) (P : Nat → Value → Prop) (J : Addr → Nat → List Value → List (Addr × Obj) → Prop) (h1 : it = .ref I) (h2 : St B L m ((I, io) :: zs₂) s₂) (h3 : Iter 0 io)
    (h4 : Itr w A (Bs.hid s₂ [I]) I n Iter P) (h5 : ∀ c, J c 0 [] [(c, cell0)]) (h6 : ∀ c i acc ex, J c i acc ex → acc.length ≤ 10000) (h7 : ∀ ca, LTurn w A env scope ((cx, ca) :: cl) tgt elt ifs (Bs.hid s₂ [I]) I n P (J ca)) (h8 : ∀ ca D acc n' ex s', J ca n acc ex → F D ((D, lob acc n') :: (ex ++ zs₂)) s') : LcGo1 w A env scope cx cl tgt elt ifs B L m it s₂ F
theorem asLC1 {cx y : Str} {py spos : Pos} {tgt elt iter : Expr} {ifs : List Expr} {scope : Scope} {pos : Pos} {cl : List (Str × Addr)} {rest : List Stmt} {Q : Flow → Shared → Prop} (_S : St B L m zs s) (hclos : closureFor scope env = pure cl)
    (h : wpAny (model prog w) A (eval iter env) (fun xv s₁ => wpAny (model prog w) A (pyIter xv) (fun it s₂ => LcGo1 w A env scope cx cl tgt elt ifs B L m it s₂ fun D zs' s' => St B L (upd m y (.ref D)) zs' s' → wpAny (model prog w) A (execs rest env) Q E s') E s₁) E s)
    (hsw : swapsWith (.ListComp elt [⟨tgt, iter, ifs, 0⟩] scope pos) (some (.Name y py)) spos.line env = pure true := by rfl) (hy : env.kindOf y = some .local := by rfl) (hL : env.locals = L := by rfl) (hk : env.scope.kind = .function := by rfl)
    (hs : ∀ x, foldedSetIterable iter env x = pure x := by intro _; rfl) (hnew : newFunctionEnv scope env.globals cl [] env.qual none .none (some env) = newEnv1 scope cx cl env := by rfl) (hkind : scope.kind = .function := by rfl)
    (hnames : ∀ x ∈ scope.names, x.2 = .local → scope.names.lookup x.1 = some .local := by decide) :
    wpAny (model prog w) A (execs (.Assign [.Name y py] (.ListComp elt [⟨tgt, iter, ifs, 0⟩] scope pos) spos :: rest) env) Q E s := by
  subst hL
  refine wpAny_execs_cons ?_
  rw [exec_Assign_Name_used _ _ _ _ hsw]
  refine wpAny_bind (wpAny_standAt (wpAny_bind ?_))
  show wpAny _ A (do let _ ← comprehension (.ListComp elt [⟨tgt, iter, ifs, 0⟩] scope pos) scope env _ (newList []) false (eval iter env) (some (assign (.Name y py) env))) _ _ s
  refine wpAny_bind (wpAny_mono (wpAny_comprehension_free (use := some (assign (.Name y py) env)) (Q := fun _ s' => wpAny (model prog w) A (execs rest env) Q E s') rfl hs hclos hkind hnames
    (wpAny_mono h (fun xv s₁ h₁ => wpAny_mono h₁ (fun it s₂ h₂ => ?_) fun _ _ e => e) fun _ _ e => e)) (fun _ s' hq => wpAny_pure (wpAny_pure hq)) fun _ _ e => e)
  obtain ⟨I, io, zs₂, n, Iter, P, J, rfl, S, hio, IT, h0, hJ, turn, hQ⟩ := h₂
  refine lcompR1 (cx := cx) (RR := fun acc C => compPost (model prog w) A E (some (assign (.Name y py) env)) (fun _ s' => wpAny (model prog w) A (execs rest env) Q E s') acc C) S hio IT.item IT.fin IT.self IT.lot J h0 hJ (fun ca => turn ca) ?_ hnew
  intro ca C D acc n' ex m' s' hj hC S'
  have So := S.compOut hC S' (Heap.SameBut.refl C s'.heap) s'.toks
  have hLC : env.locals ≠ C := fun e => by
    obtain ⟨oL, es, ep, hL, r⟩ := S.F.ns
    exact absurd (Heap.lt_size hL) (Nat.not_lt.mpr (e ▸ hC))
  show wpAny _ A (assign (.Name y py) env (.ref D)) _ _ _
  refine asN (wpAny_storeName_local hy So.F.ns (fun h₂ hn₂ hs₂ => ?_) (by rw [hk]; rfl))
  refine ⟨m', S'.F.ns.sameBut hs₂ (Ne.symm hLC), fun h₃ hs₃ => ?_⟩
  refine hQ ca D acc n' ex _ hj ?_
  have S2 := So.set hn₂ hs₂ (s'.toks + 1)
  obtain ⟨oL, es, ep, hL, r⟩ := S2.F.ns
  refine ⟨⟨⟨oL, es, ep, (hs₃.2 _ hLC).trans hL, r⟩, fun b o e => (hs₃.2 b (fun z => ?_)).trans (S2.F.keep b o e), S2.F.above⟩, fun p hp => ⟨(hs₃.2 p.1 (fun z => ?_)).trans (S2.N p hp).1, (S2.N p hp).2⟩, S2.nd, S2.G, S2.O⟩
  · have := Heap.lt_size (S.F.keep b o e)
    rw [z] at this
    exact absurd this (Nat.not_lt.mpr hC)
  · rcases List.mem_append.mp (show p ∈ ((D, lob acc n') :: ex) ++ zs₂ from hp) with hp | hp
    · exact (S'.N p hp).2.1 z
    · have := Heap.lt_size (S.N p (.tail _ hp)).1
      rw [z] at this
      exact absurd this (Nat.not_lt.mpr hC)
end
end Mine
end
section
open PySem PySem.W PyProof.Rows PySem.Calls
set_option maxRecDepth 100000
set_option maxHeartbeats 2000000
namespace Mine
theorem strs_lay : ∀ xs : List Str, (∀ x ∈ xs, PyData.strOk x = true) → PyData.canLayAll0 (xs.map PyData.str) = true
  | [], _ => rfl
  | x :: r, h => by simp [PyData.canLayAll0, PyData.canLay0, strs_lay r fun y hy => h y (.tail _ hy), h x (.head _)]
theorem strs_depth : ∀ xs : List Str, PyData.depthAll (xs.map PyData.str) = 0
  | [] => rfl
  | _ :: r => by simp [PyData.depthAll, PyData.depth, strs_depth r]
theorem strs_shaped (xs : List Str) (h : ∀ x ∈ xs, PyData.strOk x = true) : SeqAt.shaped (.list (xs.map PyData.str)) = true := by
  simp [SeqAt.shaped, PyData.canLay0, PyData.depth, strs_lay xs h, strs_depth]
theorem strs_eqv : ∀ xs : List Str, PyData.eqvAll (xs.map PyData.str) (xs.map PyData.str) = true
  | [] => rfl
  | x :: r => by simp [PyData.eqvAll, PyData.eqv, strs_eqv r]
section
variable {w : World} {A : Around} {E : Value → Shared → Prop} {s : Shared} {B : Bs} {L : Addr} {m mg : Str → Option Value} {zs : List (Addr × Obj)} {env : Env}
/-- two lists of the same texts -/
theorem neStrs {a b : Addr} {vs us : List Value} {xs : List Str} {Q : Value → Shared → Prop} (hl : s.heap.IsList a vs.toArray) (hi : Fa StrV vs xs) (hl' : s.heap.IsList b us.toArray) (hi' : Fa StrV us xs) (hok : ∀ x ∈ xs, PyData.strOk x = true) (hu : A.units + 64 < cLine)
    (h : Q (.bool false) s) : wpAny (model prog w) A (compareOp .NotEq (.ref a) (.ref b)) Q E s :=
  ne_dataH (reads_newData hl (lm_carried_strs hi.strs)) (reads_newData hl' (lm_carried_strs hi'.strs)) (strs_shaped _ hok) (strs_shaped _ hok) hu (by
    rw [show PyData.eqv (.list (xs.map PyData.str)) (.list (xs.map PyData.str)) = true by simp only [PyData.eqv]; exact strs_eqv xs]; exact h)
theorem neInts {a b : Addr} {vs us : List Value} {ns : List Int} {Q : Value → Shared → Prop} (hl : s.heap.IsList a vs.toArray) (hi : Fa IntV vs ns) (hl' : s.heap.IsList b us.toArray) (hi' : Fa IntV us ns) (hu : A.units + 64 < cLine)
    (h : Q (.bool false) s) : wpAny (model prog w) A (compareOp .NotEq (.ref a) (.ref b)) Q E s :=
  ne_intsK hl hi.ints hl' hi'.ints hu (by simpa using h)
theorem eqInts {a b : Addr} {vs us : List Value} {ns : List Int} {Q : Value → Shared → Prop} (hl : s.heap.IsList a vs.toArray) (hi : Fa IntV vs ns) (hl' : s.heap.IsList b us.toArray) (hi' : Fa IntV us ns) (hu : A.units + 64 < cLine)
    (h : Q (.bool true) s) : wpAny (model prog w) A (compareOp .Eq (.ref a) (.ref b)) Q E s :=
  eq_intsK hl hi.ints hl' hi'.ints hu (by simpa using h)
theorem maxL {l : Addr} {vs : List Value} {ns : List Int} {Q : Value → Shared → Prop} (S : St B L m zs s) (hh : A.handled = none) (hl : s.heap.IsList l vs.toArray) (hi : Fa IntV vs ns) (hne : 0 < ns.length)
    (h : ∀ M t s', M ∈ ns → (∀ a ∈ ns, a ≤ M) → St B L m zs s' → Q (.int M t) s') : wpAny (model prog w) A (call (.builtin "max") [.ref l]) Q E s := by
  exact max_list_N hh S.F S.N hl hi.ints hne fun h' M t tk F' N' h1 h2 => h M t _ h1 h2 (S.re (t := tk) F' N')
/-- the comparer is made -/
theorem mkComp {K : Frag} {C fI fC T : Addr} {Q : Value → Shared → Prop} (S : St B L m zs s) (GL : Gl mg B.h) (X : K.In B.h) (Y : Kc K C fI fC) (hI : FnD B.h fI "__init__" "TupleComp.__init__" (methAt 0) .none .none) (hA : Rm A 2)
    (h : ∀ x dx e n tk s', e.key = .str "comp_select_list" tk → e.val = .ref T → St B L m ((x, instObj C dx) :: (dx, dictOf [e] n) :: zs) s' → Q (.ref x) s') : wpAny (model prog w) A (call (.ref C) [.ref T] []) Q E s := by
  refine call_cls S.F X S.N Y.mki Y.ini Y.inif ?_
  intro x dx h' F' N' l1 l2
  have S1 : St B L m ((x, instObj C dx) :: (dx, dictOf [] 0) :: zs) { s with heap := h' } := by
    refine ⟨F', N', ?_, S.G, S.O⟩
    simp only [List.map_cons, List.nodup_cons]
    refine ⟨fun hm => ?_, fun hm => ?_, S.nd⟩
    · rcases List.mem_cons.mp hm with e | hm
      · rw [e] at l2; exact absurd l2 (Nat.lt_irrefl _)
      · obtain ⟨p, hp, e⟩ := List.mem_map.mp hm
        have := l1 p hp
        rw [e] at this; exact absurd (Nat.lt_trans this l2) (Nat.lt_irrefl _)
    · obtain ⟨p, hp, e⟩ := List.mem_map.mp hm
      have := l1 p hp
      rw [e] at this; exact absurd this (Nat.lt_irrefl _)
  generalize ({ s with heap := h' } : Shared) = s1 at *
  have hne : x ≠ dx := Nat.ne_of_gt l2
  have hb := S1.hidB (l := dx) (.tail _ (.head _))
  refine callDef [("self", .ref x), ("comp_select_list", .ref T)] [(dx, dictOf [] 0)] (k := 0) (hI.keeps S1.F.keep) (GL.keeps S1.F.keep).lim ?_ (fun _ _ _ _ _ => BindsTo.of_eq rfl) (fun p hp => by obtain rfl := List.mem_singleton.mp hp; exact S1.get (.tail _ (.head _))) (by simp) ?_
  · refine ⟨hA.hh, ?_, ?_⟩
    · show A.depth + 1 + 1 < _; have := hA.dp; (first | lia | omega)
    · show A.units + 1 + 4 * 1 < _; have := hA.un; (first | lia | omega)
  intro A' L' cd s2 hA' S2
  have hxi : (Bs.hid s1 [dx]).h.get? x = some (instObj C dx) := S1.hidZ (.head _) hne
  refine wpAny_execs_cons (plainObj_wpAny_Assign_Attribute ?_)
  refine nmL S2 rfl ?_
  refine nmL S2 rfl ?_
  refine set_dict (dx := dx) (es := []) (n := 0) S2.F (X.keeps hb) S2.N ⟨S2.base hxi, rfl, rfl, S2.get (.head _)⟩ rfl Y.sa Y.po Y.tk Y.hd rfl rfl (.head (fun _ h => nomatch h)) (Nat.le_of_ble_eq_true rfl) ?_
  intro h2 F2 N2
  have S3 : St (Bs.hid s1 [dx]) L' _ [(dx, dictOf (putL "comp_select_list" (PyData.keyHash w.params "comp_select_list") (.str "comp_select_list" (s2.toks + 1)) (.ref T) []) (putN "comp_select_list" [] 0))] { s2 with heap := h2, toks := s2.toks + 2 } := ⟨F2, N2, by simp, S2.G, S2.O⟩
  refine wpAny_execs_nil ⟨rfl, ?_⟩
  have g := S3.grows
  have U : Up dx (dictOf [] 0) (dictOf (putL "comp_select_list" (PyData.keyHash w.params "comp_select_list") (.str "comp_select_list" (s2.toks + 1)) (.ref T) []) (putN "comp_select_list" [] 0)) ((x, instObj C dx) :: (dx, dictOf [] 0) :: zs) _ := .tail .head
  exact h x dx _ _ (s2.toks + 1) _ rfl rfl (S1.growU g U)
end
end Mine
end
section
open PySem PySem.W PyProof.Rows PySem.Calls
set_option maxRecDepth 100000
set_option maxHeartbeats 2000000
namespace Mine
section
variable {w : World} {A : Around} {s₀ : Shared} {mg : Str → Option Value}
/-- lambda place: (calls[place][0], way * place) -/
theorem lamK_spec {f c' cc cw ll : Addr} {name qual : Str} {params : Arguments} {body : Expr} {scope : Scope} {cl : List (Str × Addr)} {pm ctv : Value} {oc ow : Obj} {us : List Value} {ds : List (Int × Str)} {way : Int} {tw ti : Tok} {i : Nat} {p1 p2 p3 p4 p5 p6 p7 p8 p9 : Pos} {k1 k2 : Nat}
    (GL : Gl mg s₀.heap) (hA : Rm A 1) (ho : s₀.heap.get? f = some (kla_obj name qual params body scope cl pm c' ctv)) (hcd : s₀.heap.CodeRec (.ref c') qual)
    (hbind : ∀ v, bindArgs (kla_fn name qual params body scope cl pm (.ref c') ctv) ⟨[v], []⟩ = pure [(Str.ofString "place", v)])
    (hbody : body = .Tuple [.Subscript (.Subscript (.Name "calls" p1) (.Name "place" p2) p3) (.Constant (.int 0) k1 p4) p5, .BinOp (.Name "way" p6) .Mult (.Name "place" p7) p8] k2 p9)
    (hsc : scope.kind = .function) (hs1 : scope.names.lookup (Str.ofString "place") = some .local) (hs2 : scope.names.lookup (Str.ofString "calls") = some .free) (hs3 : scope.names.lookup (Str.ofString "way") = some .free) (hs4 : ∀ x ∈ scope.names, x.2 ≠ .cell) (hs5 : scope.isCoroutine = false) (hs6 : scope.isGenerator = false)
    (hc1 : cl.lookup (Str.ofString "calls") = some cc) (hc2 : cl.lookup (Str.ofString "way") = some cw) (hoc : s₀.heap.get? cc = some oc) (hocd : oc.data = .cell (some (.ref ll))) (how : s₀.heap.get? cw = some ow) (howd : ow.data = .cell (some (.int way tw)))
    (hll : s₀.heap.IsList ll us.toArray) (hds : Fa (Pair (On s₀.heap)) us ds) (hi : i < ds.length) (hlen : ds.length ≤ 100) (hway : way = 1 ∨ way = -1) :
    Tells w A (.ref f) ⟨[.int i ti], []⟩ (fun v ys => KeyV (fun i => (dAt ds i, way * i)) (In ys) v i) s₀ := by
  refine callLam [(Str.ofString "place", .int i ti)] ho hcd GL.lim hA (hbind _) ?_ (by simp [hs1]) hs4 hs5 hs6 hsc
  intro A' L s hA' S
  subst hbody
  have hmul : ∀ x, IntMulOk way x := fun x => .of_left (by rcases hway with rfl | rfl <;> decide +kernel)
  obtain ⟨v, hv, t, tk, tk', rfl, hm⟩ := hds.get (i := i) (b := ds[i]) (by simp [hi])
  have hd : dAt ds i = ds[i].1 := by unfold dAt; rw [show ds.getD i default = ds[i] by simp [hi]]
  have hpl : List.lookup (Str.ofString "place") [(Str.ofString "place", Value.int i ti)] = some (.int i ti) := by simp
  refine Tuple_ ?_
  refine spC ?_
  refine Subscript_ ?_
  refine Subscript_ ?_
  refine nmF S hc1 hoc hocd ?_ hsc hs2
  refine nmL S (v := .int i ti) hpl ?_ hsc hs1
  refine itL (isLb S hll) (by (first | lia | omega)) (v := .ref t) (by rw [Int.toNat_natCast]; exact hv) ?_ (by (first | lia | omega))
  refine cI S ?_; intro t1 s S
  refine itT (isTb S ⟨_, hm, rfl, 0, rfl⟩) (by decide) rfl ?_ (by decide)
  refine spC ?_
  refine wpAny_BinOp ?_
  refine nmF S hc2 how howd ?_ hsc hs3
  refine nmL S (v := .int i ti) hpl ?_ hsc hs1
  refine iMul S ?_ (hmul _); intro t2 s S
  refine spN ?_
  refine nwT S ?_; intro q s S
  refine ⟨_, _, rfl, S.grows, q, tk, t2, rfl, ?_⟩
  dsimp only
  rw [hd]
  exact .head _
end
end Mine
end
section
open PySem PySem.W PyProof.Rows PySem.Calls
set_option maxRecDepth 100000
set_option maxHeartbeats 2000000
namespace Mine
section
variable {w : World} {A : Around} {E : Value → Shared → Prop} {s : Shared} {B : Bs} {L : Addr} {m mg : Str → Option Value} {zs : List (Addr × Obj)} {env : Env}
/-- a class by a name is called -/
theorem callCls {x : Str} {p pos : Pos} {e : Expr} {C : Addr} {K : Frag} {Q : Value → Shared → Prop} (X : K.In B.h) (hk : keepIn K (.ref C) = true)
    (h : wpAny (model prog w) A (eval (.Name x p) env) (fun v s₁ => v = .ref C ∧ wpAny (model prog w) A (eval e env) (fun v1 s₂ => (∃ m zs, St B L m zs s₂) ∧ wpAny (model prog w) A (call (.ref C) [v1]) Q E s₂) E s₁) E s)
    (hs : starEach [e] env = [(false, eval e env)] := by rfl) : wpAny (model prog w) A (eval (.Call (.Name x p) [e] [] pos) env) Q E s := by
  refine wpAny_Call_Name_kw (wpAny_mono h (fun v s₁ ⟨e1, h'⟩ => ?_) fun _ _ x => x)
  subst e1
  show wpAny _ _ (callWith pos (.ref C) [] (backTo pos (starEach [e] env)) []) _ _ _
  refine callWith_K X hk ?_ (by rw [hs]; rfl)
  rw [hs]
  exact spliced_cons (wpAny_mono h' (fun v1 s₂ ⟨⟨m', zs', S'⟩, h2⟩ => spliced_nil ⟨X.keeps S'.F.keep, h2⟩) fun _ _ x => x)
/-- sorted by a key -/
theorem callSorted {x : Str} {p pos : Pos} {e : Expr} {kw : Keyword} {kn : Str} {Q : Value → Shared → Prop} (hkn : kw.arg = some kn)
    (h : wpAny (model prog w) A (eval (.Name x p) env) (fun v s₁ => v = .builtin "sorted" ∧ wpAny (model prog w) A (eval e env) (fun v1 s₂ => wpAny (model prog w) A (eval kw.value env) (fun v2 s₃ => wpAny (model prog w) A (call (.builtin "sorted") [v1] [(kn, v2)]) Q E s₃) E s₂) E s₁) E s)
    (hs : starEach [e] env = [(false, eval e env)] := by rfl) : wpAny (model prog w) A (eval (.Call (.Name x p) [e] [kw] pos) env) Q E s := by
  obtain ⟨ka, kv, kp⟩ := kw
  simp only at hkn h
  subst hkn
  refine wpAny_Call_Name_kw (wpAny_mono h (fun v s₁ ⟨e1, h'⟩ => ?_) fun _ _ x => x)
  subst e1
  refine callWith_kw ?_ (by rw [hs]; rfl) (by rw [hs]; rfl)
  rw [hs]
  refine spliced_cons (wpAny_mono h' (fun v1 s₂ h2 => spliced_nil ?_) fun _ _ x => x)
  exact kws_cons (wpAny_mono h2 (fun v2 s₃ h3 => kws_nil h3) fun _ _ x => x)
theorem St.fr {x fr r : List (Addr × Obj)} (S : St B L m (x ++ (fr ++ r)) s) : St B L m (fr ++ (x ++ r)) s := S.perm (List.perm_append_comm_assoc _ _ _)
theorem St.hidT {I : Addr} {io : Obj} (S : St B L m ((I, io) :: zs) s) {a : Addr} {o : Obj} (h : (a, o) ∈ zs) : (Bs.hid s [I]).h.get? a = some o :=
  S.hidZ (.tail _ h) fun e => by
    have nd := S.nd
    rw [List.map_cons, List.nodup_cons] at nd
    exact nd.1 (List.mem_map.mpr ⟨_, h, e⟩)
/-- a table comes back -/
theorem St.back {y1 y2 a6 r : List (Addr × Obj)} {p q : Addr × Obj} (S : St B L m ((y1 ++ p :: y2) ++ (a6 ++ (q :: r))) s) : St B L m (a6 ++ (p :: q :: ((y1 ++ y2) ++ r))) s := by
  refine S.perm (List.Perm.trans ?_ (List.perm_append_comm_assoc _ _ _))
  refine List.Perm.append_left _ ?_
  refine List.Perm.trans ?_ (List.Perm.append_right _ (List.perm_middle (a := p)).symm)
  exact List.Perm.cons _ (List.perm_middle (a := q)).symm
theorem mem_cut {α : Type} {y1 y2 : List α} {p x : α} (h : x ∈ y1 ++ p :: y2) (hne : x ≠ p) : x ∈ y1 ++ y2 := by
  rcases List.mem_append.mp h with h | h
  · exact List.mem_append_left _ h
  · rcases List.mem_cons.mp h with h | h
    · exact absurd h hne
    · exact List.mem_append_right _ h
end
theorem rowS_eq {d : Int} {n : Str} (h0 : 0 ≤ d) (hn : OkN n) : dotsS (d + 2).toNat ++ n = rowS (d, n) := by
  have hc := hn.cd.1
  apply Str.ext'
  apply Array.toList_inj.mp
  show ((List.replicate (d + 2).toNat 46).toArray ++ n.cps).toList = (lineN (rowOf (d, n))).toArray.toList
  rw [Array.toList_append, hc, List.toList_toArray, List.toList_toArray]
  unfold lineN rowOf
  simp only
  rw [show (d + 2).toNat = d.toNat + 2 by (first | lia | omega)]
theorem strOk_row {p : Int × Str} (hn : OkN p.2) : PyData.strOk (rowS p) = true := by
  have hc := hn.cd.2
  unfold PyData.strOk rowS
  simp only [Array.all_eq_true', List.mem_toArray]
  intro x hx
  unfold lineN rowOf at hx
  rcases List.mem_append.mp hx with hx | hx
  · have := (List.mem_replicate.mp hx).2
    simp; (first | lia | omega)
  · have := List.mem_singleton.mp hx
    simp only at this
    simp; (first | lia | omega)
end Mine
end
section
open PySem PySem.W PyProof.Rows PySem.Calls
set_option maxRecDepth 100000
set_option maxHeartbeats 2000000
namespace Mine
def lnF (way : Int) (ds : List (Int × Str)) : LnT := lineF way (ds.map rowS) 0 []
def plF (way : Int) (ds : List (Int × Str)) : List Int := (lnF way ds).map (·.2.1)
def nmsF (way : Int) (ds : List (Int × Str)) : List Str := (lnF way ds).map (·.2.2)
def qF (way : Int) (ds : List (Int × Str)) : List Int := (List.range 7).map fun (i : Nat) => (i : Int) - (spotsF way (lnF way ds)).getD i 0 - 1
/-- what holds of a run, in plain words -/
structure Plain (way : Int) (ds : List (Int × Str)) : Prop where
  srt : ∃ p, runC 7 (lexB fun i => (dAt ds i, way * i)) (kas_sort 7) = some p ∧ p.toList.map (fun (i : Nat) => (i : Int)) = plF way ds ∧ ∀ i ∈ p.toList, i < 7
  que : qF way ds = (plF way ds).map fun pl => (waitsF way ds 7).getD pl.toNat 0
  ch : ∀ i j : Nat, i < (lnF way ds).length → (j : Int) < ((lnF way ds).getD i default).1 - 2 → 0 ≤ atF (spotsF way (lnF way ds)) i (j + 1) ∧ atF (spotsF way (lnF way ds)) i (j + 1) < (lnF way ds).length
  dot : ∀ x ∈ lnF way ds, 0 ≤ x.1 ∧ x.1 ≤ 90
  nms : ∀ x ∈ nmsF way ds, x.length ≤ 10
  book : SameB (profF (lnF way ds) (spotsF way (lnF way ds)) (qF way ds) 7) (toldF ds (waitsF way ds 7) 7).1
  spt : ∀ i : Nat, 1 ≤ i → i < 7 → 0 ≤ (i : Int) - (qF way ds).getD i 0 - 1 ∧ (i : Int) - (qF way ds).getD i 0 - 1 < 7
  rd : ∃ res, runR (undF (fun i => (i : Int) - (qF way ds).getD i 0 - 1) 6) way 20 [(0, 0)] [] = some res ∧ res.map (rdS (nmsF way ds)) = ds.map rowS
  stp : ∀ M : Int, M ∈ ds.map (·.1) → (∀ a ∈ ds.map (·.1), a ≤ M) → stopsF (spotsQ (qF way ds) 7) M.toNat = (List.range (M + 1).toNat).map fun (lv : Nat) => (((ds.map (·.1)).filter fun d => decide (d ≤ (lv : Int))).length : Int)
/-- where the text's top has laid what -/
structure La where
  C : Addr
  fI : Addr
  fC : Addr
  fCalls : Addr
  fFolded : Addr
  fMail : Addr
  fQuote : Addr
  fLine : Addr
  fCallers : Addr
  fProfile : Addr
  fWaits : Addr
  fTold : Addr
  fRead : Addr
  fStops : Addr
  fAfs : Addr
  fAc : Addr
  fIns : Addr
  fBr : Addr
  fBl : Addr
  P1 : Addr
  P2 : Addr
  cL : Addr
  PL : Addr
  cC : Addr
  PC : Addr
  cW : Addr
  PW : Addr
  dI : Value
  kI : Value
  dR : Value
  kR : Value
  dB : Value
  kB : Value
  cdWaits : Value
  cdRead : Value
  cdStops : Value
  tk0 : Tok
structure LE (a : La) (K : Frag) (vw : Program) (loose : List Str) (mean : ExcName → Option Value) (mg mb : Str → Option Value) (h : Heap) : Prop where
  GL : Gl mg h
  T : Top vw loose mean mg mb h
  X : K.In h
  Y : Kc K a.C a.fI a.fC
  keep : keepIn K (.ref a.C) = true
  hI : FnD h a.fI "__init__" "TupleComp.__init__" (methAt 0) .none .none
  hC : FnD h a.fC "compare" "TupleComp.compare" (methAt 1) .none .none
  gC : mg "TupleComp" = some (.ref a.C)
  bSum : mg "sum" = none
  bRange : mg "range" = none
  bLen : mg "len" = none
  bSorted : mg "sorted" = none
  bMax : mg "max" = none
  bMin : mg "min" = none
  bIs : mg "isinstance" = none
  bTuple : mg "tuple" = none
  gCalls : mg "_law_calls" = some (.ref a.fCalls)
  gFolded : mg "_law_folded" = some (.ref a.fFolded)
  gMail : mg "_law_mail" = some (.ref a.fMail)
  gQuote : mg "quotedata" = some (.ref a.fQuote)
  gLine : mg "_law_line" = some (.ref a.fLine)
  gCallers : mg "_law_callers" = some (.ref a.fCallers)
  gProfile : mg "_law_profile" = some (.ref a.fProfile)
  gWaits : mg "_law_waits" = some (.ref a.fWaits)
  gTold : mg "_law_told" = some (.ref a.fTold)
  gRead : mg "_law_read" = some (.ref a.fRead)
  gStops : mg "_law_stops" = some (.ref a.fStops)
  gAfs : mg "add_func_stats" = some (.ref a.fAfs)
  gAc : mg "add_callers" = some (.ref a.fAc)
  gIns : mg "insort_right" = some (.ref a.fIns)
  gBr : mg "bisect_right" = some (.ref a.fBr)
  gBl : mg "bisect_left" = some (.ref a.fBl)
  hCalls : Fn h a.fCalls "_law_calls" 15 .none .none
  hFolded : Fn h a.fFolded "_law_folded" 16 .none .none
  hMail : Fn h a.fMail "_law_mail" 17 .none .none
  hQuote : Fn h a.fQuote "quotedata" 13 .none .none
  hLine : FnC h a.fLine "_law_line" "_law_line" (defAt 18) .none .none (.ref a.cL)
  hCallers : FnC h a.fCallers "_law_callers" "_law_callers" (defAt 19) .none .none (.ref a.cC)
  hProfile : Fn h a.fProfile "_law_profile" 20 .none .none
  hWaits : FnC h a.fWaits "_law_waits" "_law_waits" (defAt 21) .none .none a.cdWaits
  hTold : Fn h a.fTold "_law_told" 22 .none .none
  hRead : FnC h a.fRead "_law_read" "_law_read" (defAt 23) .none .none a.cdRead
  hStops : FnC h a.fStops "_law_stops" "_law_stops" (defAt 24) .none .none a.cdStops
  hAfs : Fn h a.fAfs "add_func_stats" 3 .none .none
  hAc : Fn h a.fAc "add_callers" 4 .none .none
  hIns : Fn h a.fIns "insort_right" 6 a.dI a.kI
  dIns : Dfl h a.dI a.kI
  hBr : Fn h a.fBr "bisect_right" 7 a.dR a.kR
  dBr : Dfl h a.dR a.kR
  hBl : Fn h a.fBl "bisect_left" 8 a.dB a.kB
  dBl : Dfl h a.dB a.kB
  bBl : BindBL K a.dB a.kB a.tk0
  Q : QEnv mg h a.P1 a.P2
  kL : CodeHd h a.cL a.PL
  kC : CodeHd h a.cC a.PC
  kW : CodeHd h a.cW a.PW
theorem LE.keeps {a K vw loose mean mg mb h h'} (x : LE a K vw loose mean mg mb h) (k : ∀ b o, h.get? b = some o → h'.get? b = some o) : LE a K vw loose mean mg mb h' where
  GL := x.GL.keeps k
  T := x.T.keeps k
  X := x.X.keeps k
  Y := x.Y
  keep := x.keep
  hI := x.hI.keeps k
  hC := x.hC.keeps k
  gC := x.gC
  bSum := x.bSum
  bRange := x.bRange
  bLen := x.bLen
  bSorted := x.bSorted
  bMax := x.bMax
  bMin := x.bMin
  bIs := x.bIs
  bTuple := x.bTuple
  gCalls := x.gCalls
  gFolded := x.gFolded
  gMail := x.gMail
  gQuote := x.gQuote
  gLine := x.gLine
  gCallers := x.gCallers
  gProfile := x.gProfile
  gWaits := x.gWaits
  gTold := x.gTold
  gRead := x.gRead
  gStops := x.gStops
  gAfs := x.gAfs
  gAc := x.gAc
  gIns := x.gIns
  gBr := x.gBr
  gBl := x.gBl
  hCalls := x.hCalls.keeps k
  hFolded := x.hFolded.keeps k
  hMail := x.hMail.keeps k
  hQuote := x.hQuote.keeps k
  hLine := x.hLine.keeps k
  hCallers := x.hCallers.keeps k
  hProfile := x.hProfile.keeps k
  hWaits := x.hWaits.keeps k
  hTold := x.hTold.keeps k
  hRead := x.hRead.keeps k
  hStops := x.hStops.keeps k
  hAfs := x.hAfs.keeps k
  hAc := x.hAc.keeps k
  hIns := x.hIns.keeps k
  dIns := x.dIns.keeps k
  hBr := x.hBr.keeps k
  dBr := x.dBr.keeps k
  hBl := x.hBl.keeps k
  dBl := x.dBl.keeps k
  bBl := x.bBl
  Q := x.Q.keeps k
  kL := x.kL.keeps k
  kC := x.kC.keeps k
  kW := x.kW.keeps k
theorem LE.line {a K vw loose mean mg mb h} (x : LE a K vw loose mean mg mb h) : LineEnv mg h a.fIns a.fBr a.dI a.kI a.dR a.kR :=
  ⟨x.bLen, x.bRange, x.gIns, x.gBr, x.hIns, x.dIns, x.hBr, x.dBr⟩
/-- the frame's ledger: cells, tables, the rest -/
abbrev led (L PC PL PW : Addr) (ow oc od owt os : Obj) (pc pl pw : Array Value) (r : List (Addr × Obj)) : List (Addr × Obj) :=
  (L + 5, ow) :: (L + 4, oc) :: (L + 3, od) :: (L + 2, owt) :: (L + 1, os) :: (PC, tabObj pc) :: (PL, tabObj pl) :: (PW, tabObj pw) :: r
section
variable {w : World} {A : Around} {E : Value → Shared → Prop} {s : Shared} {B : Bs} {L : Addr} {m : Str → Option Value} {PC PL PW : Addr} {ow oc od owt os : Obj} {pc pl pw : Array Value} {r : List (Addr × Obj)}
theorem St.ins {x : List (Addr × Obj)} (S : St B L m (x ++ led L PC PL PW ow oc od owt os pc pl pw r) s) : St B L m (led L PC PL PW ow oc od owt os pc pl pw (x ++ r)) s :=
  St.fr (fr := [(L + 5, ow), (L + 4, oc), (L + 3, od), (L + 2, owt), (L + 1, os), (PC, tabObj pc), (PL, tabObj pl), (PW, tabObj pw)]) S
theorem mem_led {p : Addr × Obj} (h : p ∈ r) : p ∈ led L PC PL PW ow oc od owt os pc pl pw r := .tail _ (.tail _ (.tail _ (.tail _ (.tail _ (.tail _ (.tail _ (.tail _ h)))))))
end
theorem Run.all {ds d} (h : Run ds d) : (∀ p ∈ ds, 0 ≤ p.1 ∧ p.1 ≤ ds.length ∧ OkN p.2) ∧ d ≤ ds.length ∧ ds ≠ [] := by
  induction h with
  | one h =>
    refine ⟨fun p hp => ?_, by simp, by simp⟩
    obtain rfl := List.mem_singleton.mp hp
    exact ⟨Int.le_refl 0, by simp, h⟩
  | @step ds d d' n hr h1 h2 h3 ih =>
    obtain ⟨i1, i2, i3⟩ := ih
    refine ⟨fun p hp => ?_, by simp; (first | lia | omega), by simp⟩
    rcases List.mem_append.mp hp with hp | hp
    · have := i1 p hp
      simp only [List.length_append, List.length_cons, List.length_nil]
      exact ⟨this.1, by (first | lia | omega), this.2.2⟩
    · obtain rfl := List.mem_singleton.mp hp
      simp only [List.length_append, List.length_cons, List.length_nil]
      exact ⟨by (first | lia | omega), by (first | lia | omega), h3⟩
end Mine
end
section
open PySem PySem.W PyProof.Rows PySem.Calls
set_option maxRecDepth 100000
set_option maxHeartbeats 1000000
namespace Mine
section
variable {w : World} {A : Around} {s : Shared} {B : Bs} {L : Addr} {m mg mb : Str → Option Value} {K : Frag} {vw : Program} {loose : List Str} {mean : ExcName → Option Value} {a : La}
theorem St.hidL {zs : List (Addr × Obj)} {I l : Addr} {io : Obj} {vs : List Value} {n : Nat} (S : St B L m ((I, io) :: zs) s) (h : (l, lob vs n) ∈ zs) : (Bs.hid s [I]).h.IsList l vs.toArray := ⟨_, S.hidT h, rfl, n, rfl⟩
theorem St.sw {D P rg : Addr × Obj} {fr R : List (Addr × Obj)} (S : St B L m (D :: P :: rg :: (fr ++ R)) s) : St B L m (fr ++ (P :: D :: R)) s := by
  have S1 := S.sub (zs' := [D, P] ++ (fr ++ R)) (.cons_cons _ (.cons_cons _ (List.sublist_cons_self _ _)))
  exact S1.fr.perm (List.Perm.append_left _ (List.Perm.swap _ _ _))
theorem law_spec {f sc : Addr} {vs : List Value} {ns : List Int} {o1 o2 o3 o4 o5 : Obj} {Q : Flow → Shared → Prop} (Z : LE a K vw loose mean mg mb B.h) (hA : Rm A 20)
    (S : St B L m (led L a.PC a.PL a.PW o5 o4 o3 o2 o1 #[] #[] #[] []) s) (h5 : o5.data = .cell none) (h4 : o4.data = .cell none) (h3 : o3.data = .cell none) (h2 : o2.data = .cell none) (h1 : o1.data = .cell none)
    (hm : m "script" = some (.ref sc)) (hsc : B.h.IsList sc vs.toArray) (hi : IntsAre vs ns) (hlen : vs.length ≤ 63)
    (hpl : ∀ ds d way, Run ds d → ds.length = 7 → (way = 1 ∨ way = -1) → Plain way ds)
    (h : ∀ s m (r : List (Addr × Obj)) pl pw cl us n1 rl rvs n2 x ll lus n4 D ovs n5 ow oc way tw (ds : List (Int × Str)) d, St B L m (led L a.PC a.PL a.PW ow oc o3 o2 o1 #[] pl pw r) s → ow.data = .cell (some (.int way tw)) → oc.data = .cell (some (.ref cl)) →
      m "rows" = some (.ref rl) → m "comp" = some (.ref x) → m "line" = some (.ref ll) → m "order" = some (.ref D) → (cl, lob us n1) ∈ r → Fa (Pair (In r)) us ds → (rl, lob rvs n2) ∈ r → Fa StrV rvs (ds.map rowS) → Comp (In r) x a.C way →
      (ll, lob lus n4) ∈ r → Fa (Trip (In r)) lus (lnF way ds) → (D, lob ovs n5) ∈ r → Fa IntV ovs (plF way ds) → Run ds d → ds.length = 7 → (way = 1 ∨ way = -1) →
      wpAny (model prog w) A (execs ((defAt 25).2.1.drop 8) (envX "law" (defAt 25).2.2 L f (.ref a.cW) (cellsFrom (L + 1) (defAt 25).2.2.names []))) Q (fun _ _ => False) s) :
    wpAny (model prog w) A (execs (defAt 25).2.1 (envX "law" (defAt 25).2.2 L f (.ref a.cW) (cellsFrom (L + 1) (defAt 25).2.2.names []))) Q (fun _ _ => False) s := by
  have hh' := hA.hh
  have GL := Z.GL
  have hun := hA.un
  refine sAsg ?_
  refine cB1 (id := "sum") ?_
  refine nmB S GL Z.bSum (by rfl) ?_
  refine ⟨rfl, ?_⟩
  refine nmL S hm ?_
  refine sumL S hh' (isLb S hsc) hi ?_; intro t1 s S
  generalize ns.sum = tot
  refine stL S ?_; intro s S
  refine sAsg ?_
  refine wpAny_BinOp ?_
  refine cI S ?_; intro t2 s S
  refine wpAny_BinOp ?_
  refine wpAny_BinOp ?_
  refine nmL S rfl ?_
  refine cI S ?_; intro t3 s S
  refine iMod S (by decide) ?_; intro t4 s S
  refine cI S ?_; intro t5 s S
  refine iMul S ?_ (.of_right (by decide +kernel)); intro t6 s S
  refine iSub S ?_; intro tw s S
  have g1 := Int.fmod_nonneg_of_pos tot (show (0 : Int) < 2 by decide)
  have g2 := Int.fmod_lt_of_pos tot (show (0 : Int) < 2 by decide)
  have hway : (1 - tot.fmod 2 * 2 = 1) ∨ (1 - tot.fmod 2 * 2 = -1) := by
    have : tot.fmod 2 = 0 ∨ tot.fmod 2 = 1 := by (first | lia | omega)
    rcases this with e | e <;> rw [e] <;> simp
  generalize hwy : 1 - tot.fmod 2 * 2 = way at *
  refine stC S (c := L + 5) rfl (fun o' => .head) h5 ?_
  intro s ow how S
  refine sAsg ?_
  refine call1 (B := B) (L := L) Z.hCalls ?_
  refine nmG S GL Z.gCalls ?_
  refine ⟨rfl, ?_⟩
  refine nmL S (by exact hm) ?_
  refine ⟨⟨_, _, S⟩, ?_⟩
  refine callC S (calls_spec (GL.keeps S.F.keep) Z.bRange Z.bSum (Z.hCalls.keeps S.F.keep) (hA.le (by decide)) (isLb S hsc) hi (Nat.le_trans hlen (by decide))) ?_
  rintro v z1 s ⟨cl, us, ds, d, n1, rfl, hcl, hds, hrun, hl7⟩ S
  replace S := S.ins
  obtain ⟨hall, _, hne⟩ := hrun.all
  rw [hl7] at hall
  have P := hpl ds d way hrun hl7 hway
  have hul := hds.len
  refine stC S (c := L + 4) rfl (fun o' => .tail .head) h4 ?_
  intro s oc hoc S
  refine sAsg ?_
  refine call2 (B := B) (L := L) Z.hMail ?_
  refine nmG S GL Z.gMail ?_
  refine ⟨rfl, ?_⟩
  refine nmC S (c := L + 4) (o := oc) rfl (.tail _ (.head _)) hoc ?_
  refine nmL S rfl ?_
  refine ⟨⟨_, _, S⟩, ?_⟩
  refine callC S (mail_spec (GL.keeps S.F.keep) (Z.Q.keeps S.F.keep) Z.bLen Z.gQuote Z.gFolded (Z.hQuote.keeps S.F.keep) (Z.hFolded.keeps S.F.keep) (Z.hMail.keeps S.F.keep) (hA.le (by decide)) (isL S (mem_led (List.mem_append_left _ hcl)))
    (hds.mono fun v p ⟨t, a, b, e, hm⟩ => ⟨t, a, b, e, S.get (mem_led (List.mem_append_left _ hm))⟩) (fun p hp => ⟨(hall p hp).1, by have := (hall p hp).2.1; (first | lia | omega), (hall p hp).2.2⟩) (by (first | lia | omega)) hne) ?_
  rintro v z2 s ⟨rl, rvs, n2, rfl, hrl, hrows⟩ S
  replace S := S.ins
  have hrwl := hrows.len
  rw [List.length_map] at hrwl
  refine stL S ?_; intro s S
  refine sIf ?_
  refine hideQ ?_; intro Qi hQi
  refine wpAny_isTrue_Compare1 ?_
  refine nmL S rfl ?_
  refine evLC S rfl ?_
  refine nmC S (c := L + 4) (o := oc) rfl (.tail _ (.head _)) hoc ?_
  refine itrL S (isL S (vs := us) (n := n1) (mem_led (by simp [hcl]))) ?_; intro I s S
  have b1 := S.hidL (l := cl) (vs := us) (n := n1) (mem_led (by simp [hcl]))
  have b2 : Fa (Pair (On (Bs.hid s [I]).h)) us ds := hds.mono fun v p ⟨t, a, b, e, hm⟩ => ⟨t, a, b, e, S.hidT (mem_led (by simp [show _ ∈ z1 from hm]))⟩
  refine ⟨I, _, _, us.length, _, _, fun k acc ex => k ≤ us.length ∧ Fa StrV acc ((ds.take k).map rowS), rfl, S, ⟨rfl, rfl⟩, Itr.list us hh' b1, ⟨by (first | lia | omega), .nil⟩, ?_, ?_, ?_⟩
  · rintro k acc ex ⟨hk, hf⟩
    rw [hf.len]
    simp
    (first | lia | omega)
  · rintro C D k v acc n' ex m₁ s io₁ hk hv ⟨_, hf⟩ S
    have hkd : k < ds.length := by (first | lia | omega)
    obtain ⟨v', hv', t, ta, tb, rfl, hm⟩ := b2.get (i := k) (b := ds[k]) (by simp [hkd])
    obtain rfl : v = .ref t := Option.some.inj (hv.symm.trans hv')
    have hok := hall ds[k] (List.getElem_mem hkd)
    have htk : ds.take (k + 1) = ds.take k ++ [ds[k]] := List.take_succ_eq_append_getElem hkd
    generalize ds[k] = it at *
    obtain ⟨dd, nm⟩ := it
    simp only at hok hm
    have hnl : nm.length = 1 := by
      show nm.cps.size = 1
      rw [← Array.length_toList, hok.2.2.cd.1]; rfl
    refine unT S hh' (isTb S ⟨_, hm, rfl, 0, rfl⟩) rfl rfl ?_; intro s S
    refine aio ?_
    refine gsL S ?_; intro s S
    refine aio ?_
    refine gsL S ?_; intro s S
    refine aio0 ?_
    refine forIn0 ?_
    rw [if_pos rfl]
    refine wpAny_BinOp ?_
    refine wpAny_BinOp ?_
    refine cS S ?_; intro t7 s S
    refine wpAny_BinOp ?_
    refine gnL S rfl ?_
    refine cI S ?_; intro t8 s S
    refine iAdd S ?_; intro t9 s S
    refine mulS S (by (first | lia | omega)) (by (first | lia | omega)) ?_; intro t10 s S
    refine gnL S rfl ?_
    refine addS S (by show (List.replicate (dd + 2).toNat 46).toArray.size + _ ≤ _; simp only [List.size_toArray, List.length_replicate]; (first | lia | omega)) ?_; intro t11 s S
    rw [rowS_eq hok.1 hok.2.2]
    refine ⟨_, _, S, by (first | lia | omega), ?_⟩
    rw [htk, List.map_append]
    exact hf.app (.cons ⟨_, rfl⟩ .nil)
  rintro D1 acc1 n3 ex1 s ⟨_, hacc⟩ S
  rw [hul, List.take_length] at hacc
  replace S : St B L _ (led L a.PC a.PL a.PW ow oc o3 o2 o1 #[] #[] #[] (((D1, lob acc1 n3) :: ex1) ++ (z2 ++ (z1 ++ [])))) s := St.ins (x := (D1, lob acc1 n3) :: ex1) S
  refine neStrs (isL S (vs := rvs) (n := n2) (mem_led (by simp [hrl]))) hrows (isL S (mem_led (.head _))) hacc (fun x hx => by
    obtain ⟨p, hp, rfl⟩ := List.mem_map.mp hx
    exact strOk_row (hall p hp).2.2) (by (first | lia | omega)) ?_
  refine tB (hQi _ _ ?_)
  rw [if_neg (by simp)]
  refine wpAny_execs_nil ?_
  refine sAsg ?_
  refine callCls (B := B) (L := L) Z.X Z.keep ?_
  refine nmG S GL Z.gC ?_
  refine ⟨rfl, ?_⟩
  refine Tuple_ ?_
  refine spC ?_
  refine Tuple_ ?_
  refine spC ?_
  refine cI S ?_; intro t12 s S
  refine spC ?_
  refine cI S ?_; intro t13 s S
  refine spN ?_
  refine nwT S ?_; intro T0 s S
  replace S := S.ins (x := [_])
  refine spC ?_
  refine Tuple_ ?_
  refine spC ?_
  refine cI S ?_; intro t14 s S
  refine spC ?_
  refine nmC S (c := L + 5) (o := ow) rfl (.head _) how ?_
  refine spN ?_
  refine nwT S ?_; intro T1 s S
  replace S := S.ins (x := [_])
  refine spN ?_
  refine nwT S ?_; intro TT s S
  replace S := S.ins (x := [_])
  refine ⟨⟨_, _, S⟩, ?_⟩
  refine mkComp S GL Z.X Z.Y Z.hI (hA.le (by decide)) ?_
  intro x dx e ne tk s hek hev S
  replace S := S.ins (x := [_, _])
  refine stL S ?_; intro s S
  have hx : ∀ (R : Addr → Obj → Prop), (∀ p ∈ [(x, instObj a.C dx), (dx, dictOf [e] ne)] ++ ([(TT, tob [.ref T0, .ref T1])] ++ ([(T1, tob [.int 1 t14, .int way tw])] ++ ([(T0, tob [.int 0 t12, .int 1 t13])] ++ (((D1, lob acc1 n3) :: ex1) ++ (z2 ++ (z1 ++ [])))))), R p.1 p.2) → Comp R x a.C way := by
    intro R hR
    exact ⟨dx, e, ne, TT, T0, T1, t12, t13, t14, tw, hR (x, _) (by simp), hR (dx, _) (by simp), ⟨tk, hek⟩, hev, hR (TT, _) (by simp), hR (T0, _) (by simp), hR (T1, _) (by simp)⟩
  generalize hr : [(x, instObj a.C dx), (dx, dictOf [e] ne)] ++ ([(TT, tob [.ref T0, .ref T1])] ++ ([(T1, tob [.int 1 t14, .int way tw])] ++ ([(T0, tob [.int 0 t12, .int 1 t13])] ++ (((D1, lob acc1 n3) :: ex1) ++ (z2 ++ (z1 ++ [])))))) = r at *
  have hz1 : ∀ p ∈ z1, p ∈ r := fun p hp => by rw [← hr]; simp [hp]
  have hz2 : ∀ p ∈ z2, p ∈ r := fun p hp => by rw [← hr]; simp [hp]
  clear hr
  refine sAsg ?_
  refine call2 (B := B) (L := L) Z.hLine.d ?_
  refine nmG S GL Z.gLine ?_
  refine ⟨rfl, ?_⟩
  refine nmL S rfl ?_
  refine nmL S rfl ?_
  refine ⟨⟨_, _, S⟩, ?_⟩
  replace S := S.perm (zs' := (a.PL, tabObj #[]) :: ([(L + 5, ow), (L + 4, oc), (L + 3, o3), (L + 2, o2), (L + 1, o1), (a.PC, tabObj #[])] ++ ((a.PW, tabObj #[]) :: r))) (List.perm_middle (l₁ := [_, _, _, _, _, _])).symm
  have hb := S.hidB (.head _)
  have Zb := Z.keeps hb
  have hir : ∀ p ∈ r, p ∈ ([(L + 5, ow), (L + 4, oc), (L + 3, o3), (L + 2, o2), (L + 1, o1), (a.PC, tabObj #[])] ++ ((a.PW, tabObj #[]) :: r)) := fun p hp => by simp [hp]
  refine callI (args := ⟨[.ref rl, .ref x], []⟩) (P := fun v ys => ∃ l us n, v = .ref l ∧ (l, lob us n) ∈ ys ∧ Fa (Trip (In ys)) us (lnF way ds) ∧ ∃ ps, (a.PL, tabObj ps) ∈ ys) S
    (codeAny_mono (line_spec (way := way) (rs := ds.map rowS) (lp := default) Zb.T Zb.GL Zb.X Zb.Y Zb.hC Zb.line Zb.hLine Zb.kL (S.get (.head _)) (hA.le (by decide)) (hx _ fun p hp => S.hidT (hir p hp)) (S.hidL (l := rl) (vs := rvs) (n := n2) (hir _ (hz2 _ hrl))) hrows (by rw [List.length_map]; (first | lia | omega)) ?_) ?_) ?_
  · intro y hy
    obtain ⟨p, hp, rfl⟩ := List.mem_map.mp hy
    have := hall p hp
    show 1 ≤ (lineN (rowOf p)).toArray.size ∧ (lineN (rowOf p)).toArray.size ≤ 1000
    simp [lineN, rowOf]
    (first | lia | omega)
  · rintro q s' ⟨l, us', n, ys, e, g, g1, g2, g3⟩
    exact ⟨_, ys, e, g, l, us', n, rfl, g1, g2, g3⟩
  rintro _ ys s ⟨ll, lus, n4, rfl, hll, hline, ps, hps⟩ S
  obtain ⟨y1, y2, rfl⟩ := List.append_of_mem hps
  replace S := S.back
  have hll' : (ll, lob lus n4) ∈ y1 ++ y2 := mem_cut hll (fun e => by injection e with _ e1; injection e1 with e2; cases e2)
  have hline' : Fa (Trip (In (y1 ++ y2))) lus (lnF way ds) := hline.mono fun v p ⟨t, a, b, c, e, hm⟩ => ⟨t, a, b, c, e, mem_cut hm (fun e => by injection e with _ e1; injection e1 with e2; cases e2)⟩
  clear hll hline hps
  generalize y1 ++ y2 = z4 at *
  replace S : St B L _ (led L a.PC a.PL a.PW ow oc o3 o2 o1 #[] ps #[] (z4 ++ r)) s := S
  refine stL S ?_; intro s S
  refine sAsg ?_
  refine callSorted rfl ?_
  refine nmB S GL Z.bSorted (by rfl) ?_
  refine ⟨rfl, ?_⟩
  refine cT1 (id := "range") ?_
  refine nmB S GL Z.bRange (by rfl) ?_
  refine ⟨rfl, ?_⟩
  refine cI S ?_; intro t15 s S
  refine rng1 S ?_; intro rg u v s S
  replace S := S.perm (zs' := (a.PW, tabObj #[]) :: ([(rg, _), (L + 5, ow), (L + 4, oc), (L + 3, o3), (L + 2, o2), (L + 1, o1), (a.PC, tabObj #[]), (a.PL, tabObj ps)] ++ (z4 ++ r))) (List.perm_middle (l₁ := [_, _, _, _, _, _, _, _])).symm
  refine mkLam (ys := z4 ++ r) S Z.T Z.kW (.inl rfl) (clos := [(Str.ofString "way", L + 5), (Str.ofString "calls", L + 4)]) rfl ?_
  intro fl c' ctv lam ex ps' s hlamE hex htab' hrec S
  obtain ⟨p, hp1, hp2, hp3⟩ := P.srt
  refine sortedR (n := 7) (p := p) (kf := fun i => (dAt ds i, way * i)) S hh' (.tail _ (.head _)) (by decide) (by decide) ?_ hp1 ?_
  · intro s' zs' i ti S' hz hi7
    have hexm : ∀ p ∈ ex, p ∈ zs' := fun p hp => hz p (by simp [hp])
    refine lamK_spec (us := us) (ds := ds) (way := way) (tw := tw) (GL.keeps S'.F.keep) ⟨hA.hh, ?_, ?_⟩ (hlamE ▸ S'.get (hz (fl, lam) (by simp))) ?_ (fun _ => rfl) rfl rfl rfl rfl rfl (by decide) rfl rfl rfl rfl (S'.get (hz (L + 4, oc) (by simp))) hoc (S'.get (hz (L + 5, ow) (by simp))) how
      (isL S' (vs := us) (n := n1) (hexm _ (hex _ (List.mem_append_right _ (hz1 _ hcl))))) (hds.mono fun v p ⟨t, a, b, e, hm⟩ => ⟨t, a, b, e, S'.get (hexm _ (hex _ (List.mem_append_right _ (hz1 _ hm))))⟩) (by (first | lia | omega)) (by (first | lia | omega)) hway
    · show A.depth + 1 < recursionLimit; have := hA.dp; (first | lia | omega)
    · show A.units + 1 + 1 + 4 * 1 < cLine; (first | lia | omega)
    · obtain ⟨ocd, vs, t, q1, q2, q3⟩ := hrec
      exact ⟨c', ocd, vs, t, rfl, S'.get (hexm _ q1), q2, q3⟩
  intro D vs5 c5 s hvs5 S
  replace S := S.sw (fr := [(L + 5, ow), (L + 4, oc), (L + 3, o3), (L + 2, o2), (L + 1, o1), (a.PC, tabObj #[]), (a.PL, tabObj ps)])
  refine stL S ?_; intro s S
  have hr4 : ∀ y ∈ z4 ++ r, y ∈ ((D, lob (p.toList.map fun i => vs5.getD i Value.none) c5) :: (fl, lam) :: ex) := fun y hy => .tail _ (.tail _ (hex y hy))
  refine h s _ _ ps ps' cl us n1 rl rvs n2 x ll lus n4 D _ c5 ow oc way tw ds d S how hoc rfl rfl rfl rfl (hr4 _ (List.mem_append_right _ (hz1 _ hcl))) (hds.mono fun v p ⟨t, a, b, e, hm⟩ => ⟨t, a, b, e, hr4 _ (List.mem_append_right _ (hz1 _ hm))⟩)
    (hr4 _ (List.mem_append_right _ (hz2 _ hrl))) hrows (hx _ fun p hp => hr4 _ (List.mem_append_right _ hp)) (hr4 _ (List.mem_append_left _ hll')) (hline'.mono fun v p ⟨t, a, b, c, e, hm⟩ => ⟨t, a, b, c, e, hr4 _ (List.mem_append_left _ hm)⟩) (.head _) ?_ hrun hl7 hway
  rw [← hp2]
  clear hp2 hp1 S h
  have : ∀ (l : List Nat), (∀ i ∈ l, i < 7) → Fa IntV (l.map fun i => vs5.getD i Value.none) (l.map fun (i : Nat) => (i : Int)) := by
    intro l
    induction l with
    | nil => exact fun _ => .nil
    | cons i l ih =>
      intro hl
      obtain ⟨v, hv, t, rfl⟩ := hvs5.get (i := i) (b := i) (by have := hl i (.head _); simp [this])
      refine .cons ⟨t, ?_⟩ (ih fun j hj => hl j (.tail _ hj))
      simp [hv]
  exact this _ hp3
end
end Mine
end
section
open PySem PySem.W PyProof.Rows PySem.Calls
set_option maxRecDepth 100000
set_option maxHeartbeats 1000000
namespace Mine
theorem waitsF_get {way : Int} {ds : List (Int × Str)} {n i : Nat} (h : i < n) : (waitsF way ds n).getD i 0 = waitF way ds i := by
  unfold waitsF
  simp [h]
section
variable {w : World} {A : Around} {s : Shared} {B : Bs} {L : Addr} {m mg mb : Str → Option Value} {K : Frag} {vw : Program} {loose : List Str} {mean : ExcName → Option Value} {a : La}
theorem gsC {env : Env} {E : Value → Shared → Prop} {zs : List (Addr × Obj)} {x : Str} {v : Value} {c : Addr} {o : Obj} {v₀ : Option Value} {Q : Unit → Shared → Prop} {g : Obj → List (Addr × Obj)} (S : St B L m zs s) (U : ∀ o', Up c o o' zs (g o')) (hd : o.data = .cell v₀)
    (h : ∀ s' o', o'.data = .cell (some v) → St B L m (g o') s' → Q () s') (hc : env.cells.lookup x = some c := by rfl)
    (hk : env.scope.kind = .function := by rfl) (hx : env.kindOf x = some .cell := by rfl) : wpAny (model prog w) A (storeName env x v) Q E s := by
  refine wpAny_storeName_cell hk hx hc ⟨o, S.get (U o).mem, hd⟩ fun h' hv hs => ?_
  obtain ⟨o', ho', hd'⟩ := hv
  exact h _ o' hd' (S.upd (U o') hs ho' s.toks)
theorem law2 {f : Addr} {r : List (Addr × Obj)} {pl pw : Array Value} {o1 o2 o3 oc ow : Obj} {cl rl x ll D : Addr} {us rvs lus ovs : List Value} {n1 n2 n4 n5 : Nat} {way d : Int} {tw : Tok} {ds : List (Int × Str)} {Q : Flow → Shared → Prop} (Z : LE a K vw loose mean mg mb B.h) (hA : Rm A 20)
    (S : St B L m (led L a.PC a.PL a.PW ow oc o3 o2 o1 #[] pl pw r) s) (how : ow.data = .cell (some (.int way tw))) (hoc : oc.data = .cell (some (.ref cl))) (h3 : o3.data = .cell none) (h2 : o2.data = .cell none) (h1 : o1.data = .cell none)
    (m1 : m "rows" = some (.ref rl)) (m2 : m "comp" = some (.ref x)) (m3 : m "line" = some (.ref ll)) (m4 : m "order" = some (.ref D)) (hcl : (cl, lob us n1) ∈ r) (hds : Fa (Pair (In r)) us ds) (hrl : (rl, lob rvs n2) ∈ r) (hrows : Fa StrV rvs (ds.map rowS)) (hx : Comp (In r) x a.C way)
    (hll : (ll, lob lus n4) ∈ r) (hline : Fa (Trip (In r)) lus (lnF way ds)) (hD : (D, lob ovs n5) ∈ r) (hord : Fa IntV ovs (plF way ds)) (hrun : Run ds d) (hl7 : ds.length = 7) (hway : way = 1 ∨ way = -1) (P : Plain way ds)
    (h : ∀ m' ow oc od owt os pc pl pw r s', St B L m' (led L a.PC a.PL a.PW ow oc od owt os pc pl pw r) s' → Q (.ret (.bool true)) s') :
    wpAny (model prog w) A (execs ((defAt 25).2.1.drop 8) (envX "law" (defAt 25).2.2 L f (.ref a.cW) (cellsFrom (L + 1) (defAt 25).2.2.names []))) Q (fun _ _ => False) s := by
  have hh' := hA.hh
  have GL := Z.GL
  have hun := hA.un
  obtain ⟨hall, _, hne⟩ := hrun.all
  rw [hl7] at hall
  have hul := hds.len
  have hlul := hline.len
  have hll7 : (lnF way ds).length = 7 := by unfold lnF; rw [lineF_len]; simp [hl7]
  have hovl := hord.len
  have hpl7 : (plF way ds).length = 7 := by unfold plF; simp [hll7]
  obtain ⟨p, hp1, hp2, hp3⟩ := P.srt
  have hplb : ∀ x ∈ plF way ds, 0 ≤ x ∧ x < 7 := by
    intro x hx
    rw [← hp2] at hx
    obtain ⟨i, hi, rfl⟩ := List.mem_map.mp hx
    have := hp3 i hi
    (first | lia | omega)
  refine sIf ?_
  refine hideQ ?_; intro Qi hQi
  refine wpAny_isTrue_Compare1 ?_
  refine evLC S rfl ?_
  refine nmL S m3 ?_
  refine itrL S (isL S (vs := lus) (n := n4) (mem_led hll)) ?_; intro I s S
  have b1 := S.hidL (l := ll) (vs := lus) (n := n4) (mem_led hll)
  have b2 : Fa (Trip (On (Bs.hid s [I]).h)) lus (lnF way ds) := hline.mono fun v p ⟨t, a, b, c, e, hm⟩ => ⟨t, a, b, c, e, S.hidT (mem_led hm)⟩
  refine ⟨I, _, _, lus.length, _, _, fun k acc ex => k ≤ lus.length ∧ Fa IntV acc ((plF way ds).take k), rfl, S, ⟨rfl, rfl⟩, Itr.list lus hh' b1, ⟨by (first | lia | omega), .nil⟩, ?_, ?_, ?_⟩
  · rintro k acc ex ⟨hk, hf⟩
    rw [hf.len]
    simp
    (first | lia | omega)
  · rintro C D k v acc n' ex m₁ s io₁ hk hv ⟨_, hf⟩ S
    have hkl : k < (lnF way ds).length := by (first | lia | omega)
    obtain ⟨v', hv', t, ta, tb, tc, rfl, hm⟩ := b2.get (i := k) (b := (lnF way ds)[k]) (by simp [hkl])
    obtain rfl : v = .ref t := Option.some.inj (hv.symm.trans hv')
    have hpk : k < (plF way ds).length := by (first | lia | omega)
    have hpe : (plF way ds)[k] = (lnF way ds)[k].2.1 := List.getElem_map _
    refine unT S hh' (isTb S ⟨_, hm, rfl, 0, rfl⟩) rfl rfl ?_; intro s S
    refine aio ?_
    refine gsL S ?_; intro s S
    refine aio ?_
    refine gsL S ?_; intro s S
    refine aio ?_
    refine gsL S ?_; intro s S
    refine aio0 ?_
    refine forIn0 ?_
    rw [if_pos rfl]
    refine gnL S rfl ?_
    refine ⟨_, _, S, by (first | lia | omega), ?_⟩
    rw [List.take_succ_eq_append_getElem hpk]
    exact hf.app (.cons ⟨tb, by rw [hpe]⟩ .nil)
  rintro D1 acc1 n3 ex1 s ⟨_, hacc⟩ S
  rw [show lus.length = (plF way ds).length by (first | lia | omega), List.take_length] at hacc
  replace S : St B L _ (led L a.PC a.PL a.PW ow oc o3 o2 o1 #[] pl pw (((D1, lob acc1 n3) :: ex1) ++ r)) s := St.ins (x := (D1, lob acc1 n3) :: ex1) S
  refine nmL S m4 ?_
  refine neInts (isL S (vs := acc1) (n := n3) (mem_led (.head _))) hacc (isL S (vs := ovs) (n := n5) (mem_led (List.mem_append_right _ hD))) hord (by (first | lia | omega)) ?_
  refine tB (hQi _ _ ?_)
  rw [if_neg (by simp)]
  refine wpAny_execs_nil ?_
  replace S := S.sub (zs' := led L a.PC a.PL a.PW ow oc o3 o2 o1 #[] pl pw r) (.cons_cons _ (.cons_cons _ (.cons_cons _ (.cons_cons _ (.cons_cons _ (.cons_cons _ (.cons_cons _ (.cons_cons _ (List.sublist_append_right _ _)))))))))
  -- spots
  refine sAsg ?_
  refine callN (B := B) (L := L) Z.hCallers.d.isFun ?_
  refine nmG S GL Z.gCallers ?_
  refine ⟨rfl, ?_⟩
  refine spC ?_
  refine nmL S m3 ?_
  refine spC ?_
  refine nmL S m2 ?_
  refine spC ?_
  refine nmC S (c := L + 5) (o := ow) rfl (.head _) how ?_
  refine spN ?_
  refine kwAll_nil ?_
  refine ⟨⟨_, _, S⟩, ?_⟩
  replace S := S.perm (zs' := (a.PC, tabObj #[]) :: ([(L + 5, ow), (L + 4, oc), (L + 3, o3), (L + 2, o2), (L + 1, o1)] ++ ((a.PL, tabObj pl) :: ((a.PW, tabObj pw) :: r)))) (List.perm_middle (l₁ := [_, _, _, _, _])).symm
  have hb := S.hidB (.head _)
  have Zb := Z.keeps hb
  have hir : ∀ p ∈ r, p ∈ ([(L + 5, ow), (L + 4, oc), (L + 3, o3), (L + 2, o2), (L + 1, o1)] ++ ((a.PL, tabObj pl) :: ((a.PW, tabObj pw) :: r))) := fun p hp => by simp [hp]
  refine callI (args := ⟨[.ref ll, .ref x, .int way tw], []⟩) (P := fun v ys => ∃ l vs n, v = .ref l ∧ (l, lob vs n) ∈ ys ∧ Fa IntV vs (spotsF way (lnF way ds)) ∧ ∃ ps, (a.PC, tabObj ps) ∈ ys) S
    (codeAny_mono (callers_spec (way := way) (us := lus) Zb.T Zb.GL Zb.X Zb.Y Zb.hC Zb.bLen Zb.gBl Zb.hBl Zb.dBl Zb.hCallers Zb.kC (S.get (.head _)) (hA.le (by decide)) (hx.mono fun _ _ hp => S.hidT (hir _ hp)) (S.hidL (l := ll) (vs := lus) (n := n4) (hir _ hll)) (hline.mono fun v p ⟨t, a, b, c, e, hm⟩ => ⟨t, a, b, c, e, S.hidT (hir _ hm)⟩) (by (first | lia | omega))) ?_) ?_
  · rintro q s' ⟨l, vs, n, ys, e, g, g1, g2, g3⟩
    exact ⟨_, ys, e, g, l, vs, n, rfl, g1, g2, g3⟩
  rintro _ ys s ⟨sl, sus, n6, rfl, hsl, hspots, ps, hps⟩ S
  obtain ⟨y1, y2, rfl⟩ := List.append_of_mem hps
  replace S := S.back
  have hsl' : (sl, lob sus n6) ∈ y1 ++ y2 := mem_cut hsl (fun e => by injection e with _ e1; injection e1 with e2; cases e2)
  clear hsl hps
  generalize y1 ++ y2 = z4 at *
  replace S : St B L _ (led L a.PC a.PL a.PW ow oc o3 o2 o1 ps pl pw (z4 ++ r)) s :=
    S.perm (List.Perm.append_left [(L + 5, ow), (L + 4, oc), (L + 3, o3), (L + 2, o2), (L + 1, o1)] (.cons _ (.cons _ (List.perm_middle (l₁ := z4)).symm)))
  have hspl := hspots.len
  have hsp7 : (spotsF way (lnF way ds)).length = 7 := by unfold spotsF; simp [hll7]
  generalize hspE : spotsF way (lnF way ds) = sp at *
  refine stC S (c := L + 1) rfl (fun o' => .tail (.tail (.tail (.tail .head)))) h1 ?_
  intro s os hos S
  refine asLC S rfl ?_
  refine cT1 (id := "range") ?_
  refine nmB S GL Z.bRange (by rfl) ?_
  refine ⟨rfl, ?_⟩
  refine cI S ?_; intro t1 s S
  refine rng1 S ?_; intro rg u v s S
  refine rngIt (k := 7) S (by decide) (by decide) (by decide) (by decide) (by decide) ?_; intro I s S
  have c1 : (Bs.hid s [I]).h.get? (L + 1) = some os := S.hidT (.tail _ (.tail _ (.tail _ (.tail _ (.head _)))))
  have c2 := S.hidL (l := sl) (vs := sus) (n := n6) (mem_led (List.mem_append_left _ hsl'))
  have hqE : ∀ k, (qF way ds).take k = ((List.range 7).take k).map fun (i : Nat) => (i : Int) - sp.getD i 0 - 1 := by intro k; unfold qF; rw [hspE, List.map_take]
  refine ⟨I, _, _, 7, _, _, fun k acc ex => k ≤ 7 ∧ Fa IntV acc ((qF way ds).take k), rfl, S, by simp, Itr.range 0 7 hh', ⟨by (first | lia | omega), .nil⟩, ?_, ?_, ?_⟩
  · rintro k acc ex ⟨hk, hf⟩
    rw [hf.len]
    simp
    (first | lia | omega)
  · rintro C D k v acc n' ex m₁ s io₁ hk ⟨tv, rfl⟩ ⟨_, hf⟩ S
    rw [Int.zero_add]
    obtain ⟨v', hv', tq, rfl⟩ := hspots.get (i := k) (b := sp.getD k 0) (by simp [show k < sp.length by (first | lia | omega)])
    refine asN ?_
    refine gsL S ?_; intro s S
    refine forIn0 ?_
    rw [if_pos rfl]
    refine wpAny_BinOp ?_
    refine wpAny_BinOp ?_
    refine gnL S rfl ?_
    refine Subscript_ ?_
    refine gnC (c := L + 1) (S.base c1) hos ?_
    refine gnL S rfl ?_
    refine itL (isLb S c2) (by (first | lia | omega)) (by rw [Int.toNat_natCast]; exact hv') ?_ (by (first | lia | omega))
    refine iSub S ?_; intro t4 s S
    refine cI S ?_; intro t5 s S
    refine iSub S ?_; intro t6 s S
    refine ⟨_, _, S, by (first | lia | omega), ?_⟩
    rw [hqE, List.take_succ_eq_append_getElem (show k < (List.range 7).length by simp; (first | lia | omega)), List.map_append, ← hqE]
    refine hf.app (.cons ⟨t6, ?_⟩ .nil)
    simp
  rintro ql qu n7 ex7 s ⟨_, hq⟩ S
  have hq7 : (qF way ds).length = 7 := by unfold qF; simp
  rw [List.take_of_length_le (by (first | lia | omega))] at hq
  have hqul := hq.len
  replace S : St B L _ (led L a.PC a.PL a.PW ow oc o3 o2 os ps pl pw (((ql, lob qu n7) :: ex7) ++ (z4 ++ r))) s := St.ins (x := (ql, lob qu n7) :: ex7) S
  -- waits
  refine sAsg ?_
  refine call2 (B := B) (L := L) Z.hWaits.d ?_
  refine nmG S GL Z.gWaits ?_
  refine ⟨rfl, ?_⟩
  refine nmC S (c := L + 4) (o := oc) rfl (.tail _ (.head _)) hoc ?_
  refine nmC S (c := L + 5) (o := ow) rfl (.head _) how ?_
  refine ⟨⟨_, _, S⟩, ?_⟩
  have hmr : ∀ y ∈ r, y ∈ (((ql, lob qu n7) :: ex7) ++ (z4 ++ r)) := fun y hy => by simp [hy]
  refine callC S (waits_spec (us := us) (ds := ds) (GL.keeps S.F.keep) Z.bRange Z.bLen Z.bMin (Z.hWaits.keeps S.F.keep) (hA.le (by decide)) (isL S (vs := us) (n := n1) (mem_led (hmr _ hcl))) (hds.mono fun v p ⟨t, a, b, e, hm⟩ => ⟨t, a, b, e, S.get (mem_led (hmr _ hm))⟩) (by (first | lia | omega)) hway) ?_
  rintro v z5 s ⟨wl, wu, n8, rfl, hwl, hwaits⟩ S
  rw [hl7] at hwaits
  replace S := S.ins
  have hwul := hwaits.len
  have hw7 : (waitsF way ds 7).length = 7 := by unfold waitsF; simp
  refine stC S (c := L + 2) rfl (fun o' => .tail (.tail (.tail .head))) h2 ?_
  intro s owt howt S
  -- queue against waits
  refine sIf ?_
  refine hideQ ?_; intro Qi hQi
  refine wpAny_isTrue_Compare1 ?_
  refine nmL S rfl ?_
  refine evLC S rfl ?_
  refine nmL S (by exact m4) ?_
  have hDm : (D, lob ovs n5) ∈ (z5 ++ (((ql, lob qu n7) :: ex7) ++ (z4 ++ r))) := by simp [hD]
  refine itrL S (isL S (vs := ovs) (n := n5) (mem_led hDm)) ?_; intro I s S
  have d1 := S.hidL (l := D) (vs := ovs) (n := n5) (mem_led hDm)
  have d2 : (Bs.hid s [I]).h.get? (L + 2) = some owt := S.hidT (.tail _ (.tail _ (.tail _ (.head _))))
  have d3 := S.hidL (l := wl) (vs := wu) (n := n8) (mem_led (List.mem_append_left _ hwl))
  have hqE2 : ∀ k, (qF way ds).take k = ((plF way ds).take k).map fun pl => (waitsF way ds 7).getD pl.toNat 0 := by
    intro k
    have := congrArg (List.take k) P.que
    rwa [← List.map_take] at this
  refine ⟨I, _, _, ovs.length, _, _, fun k acc ex => k ≤ ovs.length ∧ Fa IntV acc ((qF way ds).take k), rfl, S, ⟨rfl, rfl⟩, Itr.list ovs hh' d1, ⟨by (first | lia | omega), .nil⟩, ?_, ?_, ?_⟩
  · rintro k acc ex ⟨hk, hf⟩
    rw [hf.len]
    simp
    (first | lia | omega)
  · rintro C D' k v acc n' ex m₁ s io₁ hk hv ⟨_, hf⟩ S
    have hpk : k < (plF way ds).length := by (first | lia | omega)
    obtain ⟨v', hv', tq, rfl⟩ := hord.get (i := k) (b := (plF way ds)[k]) (by simp [hpk])
    obtain rfl : v = .int _ tq := Option.some.inj (hv.symm.trans hv')
    have hb := hplb _ (List.getElem_mem hpk)
    have htk : (plF way ds).take (k + 1) = (plF way ds).take k ++ [(plF way ds)[k]] := List.take_succ_eq_append_getElem hpk
    generalize (plF way ds)[k] = pk at *
    obtain ⟨vw', hvw, tw', rfl⟩ := hwaits.get (i := pk.toNat) (b := (waitsF way ds 7).getD pk.toNat 0) (by simp [show pk.toNat < (waitsF way ds 7).length by (first | lia | omega)])
    refine asN ?_
    refine gsL S ?_; intro s S
    refine forIn0 ?_
    rw [if_pos rfl]
    refine Subscript_ ?_
    refine gnC (c := L + 2) (S.base d2) howt ?_
    refine gnL S rfl ?_
    refine itL (isLb S d3) (by (first | lia | omega)) hvw ?_ (by (first | lia | omega))
    refine ⟨_, _, S, by (first | lia | omega), ?_⟩
    rw [hqE2, htk, List.map_append, ← hqE2]
    exact hf.app (.cons ⟨_, rfl⟩ .nil)
  rintro D2 acc2 n9 ex2 s ⟨_, hacc2⟩ S
  rw [List.take_of_length_le (by (first | lia | omega))] at hacc2
  replace S : St B L _ (led L a.PC a.PL a.PW ow oc o3 owt os ps pl pw (((D2, lob acc2 n9) :: ex2) ++ (z5 ++ (((ql, lob qu n7) :: ex7) ++ (z4 ++ r))))) s := St.ins (x := (D2, lob acc2 n9) :: ex2) S
  refine neInts (isL S (vs := qu) (n := n7) (mem_led (by simp))) hq (isL S (vs := acc2) (n := n9) (mem_led (.head _))) hacc2 (by (first | lia | omega)) ?_
  refine tB (hQi _ _ ?_)
  rw [if_neg (by simp)]
  refine wpAny_execs_nil ?_
  have hm9 : ∀ y ∈ z4 ++ r, y ∈ (((D2, lob acc2 n9) :: ex2) ++ (z5 ++ (((ql, lob qu n7) :: ex7) ++ (z4 ++ r)))) := fun y hy => by simp only [List.mem_append] at hy ⊢; exact .inr (.inr (.inr hy))
  have hwl9 : (wl, lob wu n8) ∈ (((D2, lob acc2 n9) :: ex2) ++ (z5 ++ (((ql, lob qu n7) :: ex7) ++ (z4 ++ r)))) := by simp [hwl]
  have hql9 : (ql, lob qu n7) ∈ (((D2, lob acc2 n9) :: ex2) ++ (z5 ++ (((ql, lob qu n7) :: ex7) ++ (z4 ++ r)))) := by simp
  generalize ((D2, lob acc2 n9) :: ex2) ++ (z5 ++ (((ql, lob qu n7) :: ex7) ++ (z4 ++ r))) = r9 at *
  have hr9 : ∀ y ∈ r, y ∈ r9 := fun y hy => hm9 y (List.mem_append_right _ hy)
  have hsl9 := hm9 _ (List.mem_append_left _ hsl')
  -- the two books
  refine sIf ?_
  refine hideQ ?_; intro Qi hQi
  refine wpAny_isTrue_Compare1 ?_
  refine callN (B := B) (L := L) Z.hProfile.isFun ?_
  refine nmG S GL Z.gProfile ?_
  refine ⟨rfl, ?_⟩
  refine spC ?_
  refine nmL S (by exact m3) ?_
  refine spC ?_
  refine nmC S (c := L + 1) (o := os) rfl (.tail _ (.tail _ (.tail _ (.tail _ (.head _))))) hos ?_
  refine spC ?_
  refine nmL S rfl ?_
  refine spN ?_
  refine kwAll_nil ?_
  refine ⟨⟨_, _, S⟩, ?_⟩
  refine callC S (profile_spec (us := lus) (ln := lnF way ds) (sp := sp) (q := qF way ds) (GL.keeps S.F.keep) Z.bIs Z.bTuple Z.bRange Z.bLen Z.gAc (Z.hAc.keeps S.F.keep) Z.gAfs (Z.hAfs.keeps S.F.keep) (Z.hProfile.keeps S.F.keep) (hA.le (by decide)) (isL S (vs := lus) (n := n4) (mem_led (hr9 _ hll)))
    (hline.mono fun v p ⟨t, a, b, c, e, hm⟩ => ⟨t, a, b, c, e, S.get (mem_led (hr9 _ hm))⟩) (isL S (vs := sus) (n := n6) (mem_led hsl9)) hspots (isL S (vs := qu) (n := n7) (mem_led hql9)) hq (by (first | lia | omega)) (by (first | lia | omega)) (by (first | lia | omega)) P.dot (fun i j hi hj => by have := P.ch i j hi hj; rw [hspE] at this; exact this)) ?_
  rintro v z6 s ⟨pd, po, pkv, rfl, hpd, hpo, hplo, hbook⟩ S
  replace S := S.ins
  refine call2 (B := B) (L := L) Z.hTold ?_
  refine nmG S GL Z.gTold ?_
  refine ⟨rfl, ?_⟩
  refine nmC S (c := L + 4) (o := oc) rfl (.tail _ (.head _)) hoc ?_
  refine nmC S (c := L + 2) (o := owt) rfl (.tail _ (.tail _ (.tail _ (.head _)))) howt ?_
  refine ⟨⟨_, _, S⟩, ?_⟩
  refine callC S (told_spec (us := us) (ds := ds) (ws := waitsF way ds 7) (GL.keeps S.F.keep) Z.bRange Z.bLen (Z.hTold.keeps S.F.keep) (hA.le (by decide)) (isL S (vs := us) (n := n1) (mem_led (List.mem_append_right _ (hr9 _ hcl)))) (hds.mono fun v p ⟨t, a, b, e, hm⟩ => ⟨t, a, b, e, S.get (mem_led (List.mem_append_right _ (hr9 _ hm)))⟩)
    (isL S (vs := wu) (n := n8) (mem_led (List.mem_append_right _ hwl9))) hwaits (by (first | lia | omega)) (by (first | lia | omega)) (fun p hp => (hall p hp).1)) ?_
  rintro v z7 s ⟨qd, qo, qkv, rfl, hqd, hqo, hqlo, htold⟩ S
  replace S := S.ins
  rw [hll7] at hbook
  rw [hl7] at htold
  have hbk := P.book
  rw [hspE] at hbk
  refine neBooks hplo hqlo (isD S (mem_led (by simp [hpd])) hpo) (isD S (mem_led (by simp [hqd])) hqo) (hbook.mono fun p e he => ⟨he.1, he.2.mono fun a o h => S.get (mem_led (by simp [show (a, o) ∈ z6 from h]))⟩) (htold.mono fun p e he => ⟨he.1, he.2.mono fun a o h => S.get (mem_led (by simp [show (a, o) ∈ z7 from h]))⟩) hbk (by (first | lia | omega)) ?_
  refine tB (hQi _ _ ?_)
  rw [if_neg (by simp)]
  refine wpAny_execs_nil ?_
  replace S := S.sub (zs' := led L a.PC a.PL a.PW ow oc o3 owt os ps pl pw r9) (.cons_cons _ (.cons_cons _ (.cons_cons _ (.cons_cons _ (.cons_cons _ (.cons_cons _ (.cons_cons _ (.cons_cons _ ((List.sublist_append_right z6 _).trans (List.sublist_append_right z7 _))))))))))
  -- the reading
  obtain ⟨res, hres1, hres2⟩ := P.rd
  refine sIf ?_
  refine hideQ ?_; intro Qi hQi
  refine wpAny_isTrue_Compare1 ?_
  refine callN (B := B) (L := L) Z.hRead.d.isFun ?_
  refine nmG S GL Z.gRead ?_
  refine ⟨rfl, ?_⟩
  refine spC ?_
  refine nmL S rfl ?_
  refine spC ?_
  refine evLC S rfl ?_
  refine nmL S (by exact m3) ?_
  refine itrL S (isL S (vs := lus) (n := n4) (mem_led (hr9 _ hll))) ?_; intro I s S
  have b1 := S.hidL (l := ll) (vs := lus) (n := n4) (mem_led (hr9 _ hll))
  have b2 : Fa (Trip (On (Bs.hid s [I]).h)) lus (lnF way ds) := hline.mono fun v p ⟨t, a, b, c, e, hm⟩ => ⟨t, a, b, c, e, S.hidT (mem_led (hr9 _ hm))⟩
  refine ⟨I, _, _, lus.length, _, _, fun k acc ex => k ≤ lus.length ∧ Fa StrV acc ((nmsF way ds).take k), rfl, S, ⟨rfl, rfl⟩, Itr.list lus hh' b1, ⟨by (first | lia | omega), .nil⟩, ?_, ?_, ?_⟩
  · rintro k acc ex ⟨hk, hf⟩
    rw [hf.len]
    simp
    (first | lia | omega)
  · rintro C D k v acc n' ex m₁ s io₁ hk hv ⟨_, hf⟩ S
    have hkl : k < (lnF way ds).length := by (first | lia | omega)
    obtain ⟨v', hv', t, ta, tb, tc, rfl, hm⟩ := b2.get (i := k) (b := (lnF way ds)[k]) (by simp [hkl])
    obtain rfl : v = .ref t := Option.some.inj (hv.symm.trans hv')
    have hpk : k < (nmsF way ds).length := by unfold nmsF; simp; (first | lia | omega)
    have hpe : (nmsF way ds)[k] = (lnF way ds)[k].2.2 := List.getElem_map _
    refine unT S hh' (isTb S ⟨_, hm, rfl, 0, rfl⟩) rfl rfl ?_; intro s S
    refine aio ?_
    refine gsL S ?_; intro s S
    refine aio ?_
    refine gsL S ?_; intro s S
    refine aio ?_
    refine gsL S ?_; intro s S
    refine aio0 ?_
    refine forIn0 ?_
    rw [if_pos rfl]
    refine gnL S rfl ?_
    refine ⟨_, _, S, by (first | lia | omega), ?_⟩
    rw [List.take_succ_eq_append_getElem hpk]
    exact hf.app (.cons ⟨tc, by rw [hpe]⟩ .nil)
  rintro nl nu n10 ex10 s ⟨_, hnu⟩ S
  have hnm7 : (nmsF way ds).length = 7 := by unfold nmsF; simp [hll7]
  rw [List.take_of_length_le (by (first | lia | omega))] at hnu
  replace S : St B L _ (led L a.PC a.PL a.PW ow oc o3 owt os ps pl pw (((nl, lob nu n10) :: ex10) ++ r9)) s := St.ins (x := (nl, lob nu n10) :: ex10) S
  refine spC ?_
  refine nmC S (c := L + 5) (o := ow) rfl (.head _) how ?_
  refine spN ?_
  refine kwAll_nil ?_
  refine ⟨⟨_, _, S⟩, ?_⟩
  refine callC S (read_spec (qu := qu) (nu := nu) (q := qF way ds) (nms := nmsF way ds) (res := res) (GL.keeps S.F.keep) Z.bRange Z.bLen (Z.hRead.keeps S.F.keep) (hA.le (by decide)) (isL S (vs := qu) (n := n7) (mem_led (List.mem_append_right _ hql9))) hq (isL S (vs := nu) (n := n10) (mem_led (by simp))) hnu (by (first | lia | omega)) (by (first | lia | omega)) (by (first | lia | omega)) hway P.nms
    (fun i h1 h2 => by rw [hq7] at h2 ⊢; exact P.spt i h1 h2) (by rw [hq7]; exact hres1)) ?_
  rintro v z8 s ⟨xl, xu, n11, rfl, hxl, hxu⟩ S
  rw [hres2] at hxu
  replace S := S.ins
  refine nmL S (by exact m1) ?_
  refine neStrs (isL S (vs := xu) (n := n11) (mem_led (List.mem_append_left _ hxl))) hxu (isL S (vs := rvs) (n := n2) (mem_led (List.mem_append_right _ (List.mem_append_right _ (hr9 _ hrl))))) hrows (fun x hx => by
    obtain ⟨p, hp, rfl⟩ := List.mem_map.mp hx
    exact strOk_row (hall p hp).2.2) (by (first | lia | omega)) ?_
  refine tB (hQi _ _ ?_)
  rw [if_neg (by simp)]
  refine wpAny_execs_nil ?_
  replace S := S.sub (zs' := led L a.PC a.PL a.PW ow oc o3 owt os ps pl pw r9) (.cons_cons _ (.cons_cons _ (.cons_cons _ (.cons_cons _ (.cons_cons _ (.cons_cons _ (.cons_cons _ (.cons_cons _ ((List.sublist_append_right ((nl, lob nu n10) :: ex10) _).trans (List.sublist_append_right z8 _))))))))))
  -- depths
  refine sAsg ?_
  refine evLC S rfl ?_
  refine nmC S (c := L + 4) (o := oc) rfl (.tail _ (.head _)) hoc ?_
  refine itrL S (isL S (vs := us) (n := n1) (mem_led (hr9 _ hcl))) ?_; intro I s S
  have b1 := S.hidL (l := cl) (vs := us) (n := n1) (mem_led (hr9 _ hcl))
  have b2 : Fa (Pair (On (Bs.hid s [I]).h)) us ds := hds.mono fun v p ⟨t, a, b, e, hm⟩ => ⟨t, a, b, e, S.hidT (mem_led (hr9 _ hm))⟩
  refine ⟨I, _, _, us.length, _, _, fun k acc ex => k ≤ us.length ∧ Fa IntV acc ((ds.take k).map (·.1)), rfl, S, ⟨rfl, rfl⟩, Itr.list us hh' b1, ⟨by (first | lia | omega), .nil⟩, ?_, ?_, ?_⟩
  · rintro k acc ex ⟨hk, hf⟩
    rw [hf.len]
    simp
    (first | lia | omega)
  · rintro C D k v acc n' ex m₁ s io₁ hk hv ⟨_, hf⟩ S
    have hkd : k < ds.length := by (first | lia | omega)
    obtain ⟨v', hv', t, ta, tb, rfl, hm⟩ := b2.get (i := k) (b := ds[k]) (by simp [hkd])
    obtain rfl : v = .ref t := Option.some.inj (hv.symm.trans hv')
    refine unT S hh' (isTb S ⟨_, hm, rfl, 0, rfl⟩) rfl rfl ?_; intro s S
    refine aio ?_
    refine gsL S ?_; intro s S
    refine aio ?_
    refine gsL S ?_; intro s S
    refine aio0 ?_
    refine forIn0 ?_
    rw [if_pos rfl]
    refine gnL S rfl ?_
    refine ⟨_, _, S, by (first | lia | omega), ?_⟩
    rw [List.take_succ_eq_append_getElem hkd, List.map_append]
    exact hf.app (.cons ⟨ta, rfl⟩ .nil)
  rintro dl du n12 ex12 s ⟨_, hdu⟩ S
  rw [hul, List.take_length] at hdu
  have hdul := hdu.len
  rw [List.length_map] at hdul
  replace S : St B L _ (led L a.PC a.PL a.PW ow oc o3 owt os ps pl pw (((dl, lob du n12) :: ex12) ++ r9)) s := St.ins (x := (dl, lob du n12) :: ex12) S
  refine stC S (c := L + 3) rfl (fun o' => .tail (.tail .head)) h3 ?_
  intro s od hod S
  have hne7 : 0 < (ds.map (·.1)).length := by rw [List.length_map]; (first | lia | omega)
  -- due
  refine asLC1 (cx := Str.ofString "level") S rfl ?_
  refine cT1 (id := "range") ?_
  refine nmB S GL Z.bRange (by rfl) ?_
  refine ⟨rfl, ?_⟩
  refine wpAny_BinOp ?_
  refine cB1 (id := "max") ?_
  refine nmB S GL Z.bMax (by rfl) ?_
  refine ⟨rfl, ?_⟩
  refine nmC S (c := L + 3) (o := od) rfl (.tail _ (.tail _ (.head _))) hod ?_
  refine maxL S hh' (isL S (vs := du) (n := n12) (mem_led (.head _))) hdu hne7 ?_; intro M tM s hM1 hM2 S
  have hM0 : 0 ≤ M ∧ M ≤ 7 := by
    obtain ⟨p, hp, rfl⟩ := List.mem_map.mp hM1
    have := hall p hp
    (first | lia | omega)
  refine cI S ?_; intro t1 s S
  refine iAdd S ?_; intro t2 s S
  refine rng1 S ?_; intro rg u v s S
  refine rngIt (k := (M + 1).toNat) S (by simp) (by (first | lia | omega)) (by (first | lia | omega)) (by (first | lia | omega)) (by (first | lia | omega)) ?_; intro I s S
  have e3 : (Bs.hid s [I]).h.get? (L + 3) = some od := S.hidT (.tail _ (.tail _ (.head _)))
  have e4 := S.hidL (l := dl) (vs := du) (n := n12) (mem_led (.head _))
  have bkI := S.hidB (l := I) (.head _)
  refine ⟨I, _, _, (M + 1).toNat, _, _, fun ca k acc ex => k ≤ (M + 1).toNat ∧ ∃ o' rest, ex = (ca, o') :: rest ∧ (∃ v0, o'.data = .cell v0) ∧ Fa IntV acc ((List.range k).map fun (lv : Nat) => (((ds.map (·.1)).filter fun d => decide (d ≤ (lv : Int))).length : Int)), rfl, S, by simp, Itr.range 0 _ hh',
    fun c => ⟨by (first | lia | omega), cell0, [], rfl, ⟨_, rfl⟩, .nil⟩, ?_, ?_, ?_⟩
  · rintro ca k acc ex ⟨hk, o', rest, rfl, _, hf⟩
    rw [hf.len]
    simp
    (first | lia | omega)
  · rintro ca C D k v acc n' ex m₁ s io₁ hk ⟨tv, rfl⟩ ⟨_, o', rest, rfl, ⟨v0, ho'⟩, hf⟩ S
    rw [Int.zero_add]
    refine asN ?_
    refine gsC (c := ca) S (fun o'' => .tail (.tail .head)) ho' ?_
    intro s oca hoca S
    refine forIn0 ?_
    rw [if_pos rfl]
    refine cB1 (id := "len") ?_
    refine gnB S (GL.keeps bkI) Z.bLen (by rfl) ?_
    refine ⟨rfl, ?_⟩
    refine evLC S rfl ?_
    refine gnC (c := L + 3) (S.base e3) hod ?_
    refine itrL S (isLb S e4) ?_; intro I2 s S
    have f1 : (Bs.hid s [I2]).h.get? ca = some oca := S.hidT (.tail _ (.tail _ (.head _)))
    have f2 : (Bs.hid s [I2]).h.IsList dl du.toArray := let ⟨o, ho, r⟩ := e4; ⟨o, S.hidB (l := I2) (.head _) _ _ ho, r⟩
    refine ⟨I2, _, _, du.length, _, _, fun j acc2 ex2 => j ≤ du.length ∧ ex2 = [] ∧ Fa IntV acc2 (((ds.map (·.1)).take j).filter fun d => decide (d ≤ (k : Int))), rfl, S, ⟨rfl, rfl⟩, Itr.list du hh' f2, ⟨by (first | lia | omega), rfl, .nil⟩, ?_, ?_, ?_⟩
    · rintro j acc2 ex2 ⟨hj, rfl, hf2⟩
      rw [hf2.len]
      refine Nat.le_trans (List.length_filter_le _ _) ?_
      simp
      (first | lia | omega)
    · rintro C2 D2 j v acc2 n2' ex2 m₂ s io₂ hj hv ⟨_, rfl, hf2⟩ S
      have hjd : j < (ds.map (·.1)).length := by rw [List.length_map]; (first | lia | omega)
      obtain ⟨v', hv', td, rfl⟩ := hdu.get (i := j) (b := (ds.map (·.1))[j]) (List.getElem?_eq_getElem hjd)
      obtain rfl : v = .int _ td := Option.some.inj (hv.symm.trans hv')
      have htj : (ds.map (·.1)).take (j + 1) = (ds.map (·.1)).take j ++ [(ds.map (·.1))[j]] := List.take_succ_eq_append_getElem hjd
      generalize (ds.map (·.1))[j] = dj at *
      refine asN ?_
      refine gsL S ?_; intro s S
      refine forIn1 ?_
      refine wpAny_isTrue_Compare1 ?_
      refine gnL S rfl ?_
      refine gnC (c := ca) (S.base f1) hoca ?_
      refine PyProof.Rows.le_int ?_
      refine tB ?_
      by_cases hle : dj ≤ (k : Int)
      · rw [if_pos (decide_eq_true hle)]
        refine gnL S rfl ?_
        refine ⟨_, _, S, by (first | lia | omega), rfl, ?_⟩
        rw [htj, List.filter_append]
        simp only [List.filter_cons, hle, decide_true, if_true, List.filter_nil]
        exact hf2.app (.cons ⟨td, rfl⟩ .nil)
      · rw [if_neg (by simpa using hle)]
        refine ⟨_, _, S, by (first | lia | omega), rfl, ?_⟩
        rw [htj, List.filter_append]
        simp only [List.filter_cons, hle, decide_false, Bool.false_eq_true, if_false, List.filter_nil, List.append_nil]
        exact hf2
    rintro D3 acc3 n3' ex3 s ⟨_, rfl, hf3⟩ S
    rw [List.take_of_length_le (by rw [List.length_map]; (first | lia | omega))] at hf3
    have h3l := hf3.len
    have h3b := List.length_filter_le (fun d => decide (d ≤ (k : Int))) (ds.map (·.1))
    rw [List.length_map] at h3b
    refine lenL S (isL S (vs := acc3) (n := n3') (.head _)) (by (first | lia | omega)) ?_; intro t3 s S
    replace S := S.drop1
    refine ⟨_, _, S, by (first | lia | omega), oca, rest, rfl, ⟨_, hoca⟩, ?_⟩
    rw [List.range_succ, List.map_append]
    refine hf.app (.cons ⟨t3, ?_⟩ .nil)
    rw [h3l]
  rintro ca el eu n13 ex13 s ⟨_, o', rest, rfl, _, heu⟩ S
  replace S : St B L _ (led L a.PC a.PL a.PW ow oc od owt os ps pl pw (((el, lob eu n13) :: (ca, o') :: rest) ++ (((dl, lob du n12) :: ex12) ++ r9))) s := St.ins (x := (el, lob eu n13) :: (ca, o') :: rest) S
  refine sRet ?_
  refine wpAny_Compare1 ?_
  refine call2 (B := B) (L := L) Z.hStops.d ?_
  refine nmG S GL Z.gStops ?_
  refine ⟨rfl, ?_⟩
  refine nmL S rfl ?_
  refine cB1 (id := "max") ?_
  refine nmB S GL Z.bMax (by rfl) ?_
  refine ⟨rfl, ?_⟩
  refine nmC S (c := L + 3) (o := od) rfl (.tail _ (.tail _ (.head _))) hod ?_
  refine maxL S hh' (isL S (vs := du) (n := n12) (mem_led (by simp))) hdu hne7 ?_; intro M2 tM2 s hN1 hN2 S
  have hMM : M2 = M := Int.le_antisymm (hM2 _ hN1) (hN2 _ hM1)
  refine ⟨⟨_, _, S⟩, ?_⟩
  have hst := P.stp M hM1 hM2
  obtain ⟨mm, hmm⟩ := Int.eq_ofNat_of_zero_le hM0.1
  rw [hMM, hmm]
  refine callC S (stops_spec (us := qu) (q := qF way ds) (many := mm) (GL.keeps S.F.keep) (Z.X.keeps S.F.keep) Z.bRange Z.bLen Z.gBl (Z.hBl.keeps S.F.keep) Z.bBl (Z.hStops.keeps S.F.keep) (hA.le (by decide)) (isL S (vs := qu) (n := n7) (mem_led (by simp [hql9]))) hq (by (first | lia | omega)) (by (first | lia | omega))) ?_
  rintro v z14 s ⟨tl, tu, n14, rfl, htl, htu⟩ S
  replace S := S.ins
  refine nmL S rfl ?_
  rw [hq7] at htu
  rw [show M.toNat = mm by (first | lia | omega)] at hst
  rw [hst] at htu
  refine eqInts (isL S (vs := tu) (n := n14) (mem_led (by simp [htl]))) htu (isL S (vs := eu) (n := n13) (mem_led (by simp))) heu (by (first | lia | omega)) ?_
  exact h _ _ _ _ _ _ _ _ _ _ _ S
end
end Mine
end
section
open PySem PySem.W PyProof.Rows PySem.Calls
set_option maxRecDepth 100000
set_option maxHeartbeats 2000000
namespace Mine
/-! what hangs on the depths alone -/
abbrev LnP := List (Int × Int)
def insP (way : Int) (lp : LnP) (it : Int × Int) : LnP :=
  let r := bisR (fun i => cmpF way (lp.getD i default) it) (cmpF way it it) lp.length 0 lp.length
  lp.take r ++ it :: lp.drop r
def lineP (way : Int) : List Int → Nat → LnP → LnP
  | [], _, lp => lp
  | d :: r, i, lp => lineP way r (i + 1) (insP way lp (d + 2, i))
def spotsP (way : Int) (lp : LnP) : List Int :=
  -1 :: (lp.drop 1).map fun it => (bisL (fun i => cmpF way (lp.getD i default) (it.1 - 1, it.2)) 0 lp.length 0 lp.length : Int) - (1 + way).fdiv 2
def qP (way : Int) (lp : LnP) : List Int := let sp := spotsP way lp; (List.range 7).map fun (i : Nat) => (i : Int) - sp.getD i 0 - 1
def waitP (way : Int) (D : List Int) (p : Nat) : Int :=
  (((List.range 7).filter fun (k : Nat) => decide (way * (k : Int) < way * (p : Int)) && (D.getD k 0 == D.getD p 0)).length : Int)
    + (((List.range 7).filter fun (k : Nat) => decide (way * (p : Int) < way * (k : Int)) && (D.getD k 0 == D.getD p 0 - 1)).length : Int)
    - ((if 1 < D.getD p 0 then 1 else D.getD p 0) * (1 - way)).fdiv 2
def waitsP (way : Int) (D : List Int) : List Int := (List.range 7).map (waitP way D)
/-- the places of the path above, place by place -/
def pathP (D : List Int) : Nat → List Nat
  | 0 => []
  | n + 1 => (pathP D n).take (D.getD n 0).toNat ++ [n]
def ancP (D : List Int) (p : Nat) : List Nat := (pathP D p).take (D.getD p 0).toNat
def namF (ds : List (Int × Str)) (k : Nat) : Str := (ds.getD k default).2
def addN (ds : List (Int × Str)) (p : Int × Int) : Int × Int × Str := (p.1, p.2, namF ds p.2.toNat)
theorem getD_addN (ds : List (Int × Str)) (lp : LnP) (i : Nat) : (((lp.map (addN ds)).getD i default).1, ((lp.map (addN ds)).getD i default).2.1) = lp.getD i default := by
  simp only [List.getD_eq_getElem?_getD, List.getElem?_map]
  cases lp[i]? <;> rfl
theorem ins_addN (way : Int) (ds : List (Int × Str)) (lp : LnP) (it : Int × Int) : insF way (lp.map (addN ds)) (addN ds it) = (insP way lp it).map (addN ds) := by
  unfold insF insP
  simp only [getD_addN, List.length_map]
  rw [List.map_append, List.map_take, List.map_cons, List.map_drop]
  rfl
theorem item_last (l : List Nat) (c : Nat) : Txt.item ⟨(l ++ [c]).toArray⟩ (-1) = ⟨#[c]⟩ := by
  have e : Str.length ⟨(l ++ [c]).toArray⟩ = l.length + 1 := by
    show (l ++ [c]).toArray.size = _
    simp
  have h3 : ¬ ((-1 : Int) + ((l.length + 1 : Nat) : Int) < 0) := by (first | lia | omega)
  have h4 : (-1 : Int) + ((l.length : Int) + 1) = l.length := by (first | lia | omega)
  have h5 : (0 : Int) ≤ l.length ∧ (l.length : Int) < l.length + 1 := by (first | lia | omega)
  simp [Txt.item, Txt.charAt, seqIndex?, e, h3, h4, h5]
theorem item_row {p : Int × Str} (h : OkN p.2) (h0 : 0 ≤ p.1) (i : Nat) : itemF (rowS p) i = (p.1 + 2, (i : Int), p.2) := by
  obtain ⟨d, n⟩ := p
  obtain ⟨k, rfl⟩ := Int.eq_ofNat_of_zero_le h0
  unfold itemF
  have hl : (rowS ((k : Int), n)).length = k + 3 := by
    show (rowS ((k : Int), n)).cps.size = _
    unfold rowS rowOf lineN
    simp
  have hn : Txt.item (rowS ((k : Int), n)) (-1) = n := by
    unfold rowS lineN
    rw [item_last]
    show (⟨#[cdN n]⟩ : Str) = n
    have := h.cd.1
    obtain ⟨c⟩ := n
    simp only at this
    congr 1
    apply Array.toList_inj.mp
    rw [this]
  rw [hl, hn]
  simp only [Prod.mk.injEq, and_true]
  (first | lia | omega)
theorem line_addN (way : Int) (all : List (Int × Str)) : ∀ (ds : List (Int × Str)) (i : Nat) (lp : LnP), (∀ p ∈ ds, 0 ≤ p.1 ∧ OkN p.2) → (∀ k, k < ds.length → namF all (i + k) = namF ds k) →
    lineF way (ds.map rowS) i (lp.map (addN all)) = (lineP way (ds.map (·.1)) i lp).map (addN all)
  | [], _, _, _, _ => rfl
  | p :: r, i, lp, h, hn => by
    have hp := h p (.head _)
    have h0 : namF all i = p.2 := hn 0 (by simp)
    simp only [List.map_cons, lineF, lineP]
    rw [item_row hp.2 hp.1 i]
    have e : ((p.1 + 2, (i : Int), p.2) : Int × Int × Str) = addN all (p.1 + 2, (i : Int)) := by
      unfold addN
      simp only [Int.toNat_natCast, h0]
    rw [e, ins_addN]
    refine line_addN way all r (i + 1) _ (fun q hq => h q (.tail _ hq)) (fun k hk => ?_)
    have := hn (k + 1) (by simp; (first | lia | omega))
    rw [show i + 1 + k = i + (k + 1) by (first | lia | omega), this]
    rfl
theorem lnF_eq {way : Int} {ds : List (Int × Str)} (h : ∀ p ∈ ds, 0 ≤ p.1 ∧ OkN p.2) : lnF way ds = (lineP way (ds.map (·.1)) 0 []).map (addN ds) :=
  line_addN way ds ds 0 [] h (fun k _ => by rw [Nat.zero_add])
theorem spots_addN (way : Int) (ds : List (Int × Str)) (lp : LnP) : spotsF way (lp.map (addN ds)) = spotsP way lp := by
  unfold spotsF spotsP
  rw [← List.map_drop, List.map_map]
  congr 1
  refine List.map_congr_left fun it _ => ?_
  show spotF way (lp.map (addN ds)) (addN ds it) = _
  unfold spotF
  have e : lkey way (lp.map (addN ds)) ((addN ds it).1 - 1, (addN ds it).2.1) = fun i => cmpF way (lp.getD i default) (it.1 - 1, it.2) := by
    funext i
    unfold lkey
    rw [getD_addN]
    rfl
  rw [e, List.length_map]
theorem dAt_eq (ds : List (Int × Str)) (k : Nat) : dAt ds k = (ds.map (·.1)).getD k 0 := by
  unfold dAt
  simp only [List.getD_eq_getElem?_getD, List.getElem?_map]
  cases ds[k]? <;> rfl
theorem waits_eq {way : Int} {ds : List (Int × Str)} (h : ds.length = 7) : waitsF way ds 7 = waitsP way (ds.map (·.1)) := by
  unfold waitsF waitsP
  refine List.map_congr_left fun p _ => ?_
  unfold waitF waitP pickN mateB eldB
  simp only [dAt_eq, h, List.length_map]
theorem q_eq {way : Int} {ds : List (Int × Str)} (h : ∀ p ∈ ds, 0 ≤ p.1 ∧ OkN p.2) : qF way ds = qP way (lineP way (ds.map (·.1)) 0 []) := by
  unfold qF qP
  rw [lnF_eq h, spots_addN]
theorem pl_eq {way : Int} {ds : List (Int × Str)} (h : ∀ p ∈ ds, 0 ≤ p.1 ∧ OkN p.2) : plF way ds = (lineP way (ds.map (·.1)) 0 []).map (·.2) := by
  unfold plF
  rw [lnF_eq h, List.map_map]
  rfl
theorem nms_eq {way : Int} {ds : List (Int × Str)} (h : ∀ p ∈ ds, 0 ≤ p.1 ∧ OkN p.2) : nmsF way ds = (lineP way (ds.map (·.1)) 0 []).map fun p => namF ds p.2.toNat := by
  unfold nmsF
  rw [lnF_eq h, List.map_map]
  rfl
end Mine
end
section
open PySem PySem.W PyProof.Rows PySem.Calls
set_option maxRecDepth 100000
set_option maxHeartbeats 2000000
namespace Mine
def okSrt (way : Int) (D : List Int) (lp : LnP) : Bool :=
  match runC 7 (lexB fun i => (D.getD i 0, way * i)) (kas_sort 7) with
  | some p => p.toList.map (fun (i : Nat) => (i : Int)) == lp.map (·.2) && p.toList.all fun i => decide (i < 7)
  | none => false
def okLen (lp : LnP) : Bool := lp.length == 7
def okPl (lp : LnP) : Bool := ((List.range 7).map fun i => (lp.getD i default).2.toNat).isPerm (List.range 7)
def okPd (D : List Int) (lp : LnP) : Bool := lp.all fun p => decide (0 ≤ p.2) && decide (p.2 < 7) && p.1 == D.getD p.2.toNat 0 + 2
def okQue (way : Int) (D : List Int) (lp : LnP) : Bool := let W := waitsP way D; qP way lp == lp.map fun p => W.getD p.2.toNat 0
def okCh (way : Int) (lp : LnP) : Bool := let sp := spotsP way lp; (List.range 7).all fun i => (List.range ((lp.getD i default).1 - 2).toNat).all fun j => decide (0 ≤ atF sp i (j + 1)) && decide (atF sp i (j + 1) < 7)
def okDot (lp : LnP) : Bool := lp.all fun p => decide (0 ≤ p.1) && decide (p.1 ≤ 90)
def okAnc (way : Int) (D : List Int) (lp : LnP) : Bool := let sp := spotsP way lp; (List.range 7).all fun i =>
  let it := lp.getD i default
  ((List.range (it.1 - 2).toNat).map fun j => (lp.getD (atF sp i (j + 1)).toNat default).2.toNat) == (ancP D it.2.toNat).reverse
def okSpt (way : Int) (lp : LnP) : Bool := let q := qP way lp; (List.range 7).all fun (i : Nat) => i == 0 || (decide (0 ≤ (i : Int) - q.getD i 0 - 1) && decide ((i : Int) - q.getD i 0 - 1 < 7))
def okRd (way : Int) (D : List Int) (lp : LnP) : Bool := let q := qP way lp;
  match runR (undF (fun i => (i : Int) - q.getD i 0 - 1) 6) way 20 [(0, 0)] [] with
  | some res => ((res.map fun p => ((lp.getD p.1 default).2.toNat, p.2)) == (List.range 7).map fun k => (k, (D.getD k 0).toNat)) && res.all fun p => decide (p.1 < 7)
  | none => false
def okStp (way : Int) (D : List Int) (lp : LnP) : Bool := let sq := spotsQ (qP way lp) 7; D.all fun M => !(D.all fun a => decide (a ≤ M)) || (stopsF sq M.toNat == (List.range (M + 1).toNat).map fun (lv : Nat) => ((D.filter fun d => decide (d ≤ (lv : Int))).length : Int))
def okAll (way : Int) (D : List Int) : Bool :=
  let lp := lineP way D 0 []
  okLen lp && okPl lp && okPd D lp && okSrt way D lp && okQue way D lp && okCh way lp && okDot lp && okAnc way D lp && okSpt way lp && okRd way D lp && okStp way D lp
/-- every run that goes on from D by n steps -/
def runs (f : List Int → Bool) : Nat → List Int → Nat → Bool
  | 0, D, _ => f D
  | n + 1, D, d => (List.range (d + 1)).all fun k => runs f n (D ++ [((k + 1 : Nat) : Int)]) (k + 1)
example : okAll 1 [0,1,2,2,3,1,2] = true := by decide +kernel
example : okAll (-1) [0,1,2,2,3,1,2] = true := by decide +kernel
end Mine
end
section
open PySem PySem.W PyProof.Rows PySem.Calls
set_option maxRecDepth 100000
set_option maxHeartbeats 2000000
namespace Mine
/-! two books of the same calls, written in another order -/
theorem vI_stI' {α : Type} (k : Str) (v : α) (k' : Str) : ∀ (c : List (Str × α)), vI (stI c k v) k' = if k = k' then some v else vI c k'
  | c => by
    have hmap : ∀ (c : List (Str × α)), vI (c.map (fun kv => if kv.1 = k then (kv.1, v) else kv)) k' = if k = k' then (if c.any (fun kv => kv.1 = k) then some v else none) else vI c k' := by
      intro c
      induction c with
      | nil => by_cases h : k = k' <;> simp [vI, h]
      | cons p r ih =>
        unfold vI at ih ⊢
        simp only [List.map_cons, List.find?_cons, List.any_cons] at ih ⊢
        by_cases hp : p.1 = k
        · by_cases h : k = k'
          · simp [hp, h]
          · simp only [hp, if_true, h, decide_false]
            simpa [h] using ih
        · by_cases h : k = k'
          · subst h
            simp only [hp, if_false, decide_false, Bool.false_or]
            simpa using ih
          · simp only [hp, if_false, h]
            by_cases h2 : p.1 = k'
            · simp [h2]
            · simp only [h2, decide_false]
              simpa [h] using ih
    unfold stI
    split
    · rename_i ha
      rw [hmap, ha]
      simp
    · rename_i ha
      unfold vI
      rw [List.find?_append]
      by_cases h : k = k'
      · subst h
        have : c.find? (fun kv => decide (kv.1 = k)) = none := by
          rw [List.find?_eq_none]
          intro x hx hk
          exact ha (List.any_eq_true.mpr ⟨x, hx, hk⟩)
        rw [this]
        simp
      · rw [if_neg h]
        simp [h]
theorem vI_none {α : Type} {c : List (Str × α)} {k : Str} : vI c k = none ↔ k ∉ c.map (·.1) := by
  unfold vI
  rw [Option.map_eq_none_iff, List.find?_eq_none]
  constructor
  · intro h hk
    obtain ⟨p, hp, rfl⟩ := List.mem_map.mp hk
    exact h p hp (by simp)
  · intro h p hp e
    exact h (List.mem_map.mpr ⟨p, hp, by simpa using e⟩)
theorem vI_some {α : Type} {k : Str} {x : α} : ∀ {c : List (Str × α)}, (c.map (·.1)).Nodup → (k, x) ∈ c → vI c k = some x
  | p :: r, nd, h => by
    rw [List.map_cons, List.nodup_cons] at nd
    unfold vI
    rw [List.find?_cons]
    rcases List.mem_cons.mp h with rfl | h
    · simp
    · have hne : p.1 ≠ k := fun e => nd.1 (List.mem_map.mpr ⟨(k, x), h, e.symm⟩)
      simp only [hne, decide_false]
      exact vI_some nd.2 h
theorem stI_nd {α : Type} {c : List (Str × α)} {k : Str} {v : α} (nd : (c.map (·.1)).Nodup) : ((stI c k v).map (·.1)).Nodup := by
  unfold stI
  split
  · rw [List.map_map]
    have : ((fun x : Str × α => x.1) ∘ fun kv => if kv.1 = k then (kv.1, v) else kv) = fun x => x.1 := by
      funext x
      simp only [Function.comp]
      split <;> rfl
    rw [this]
    exact nd
  · rename_i ha
    rw [List.map_append, List.nodup_append]
    refine ⟨nd, by simp, fun a h1 b h2 e => ?_⟩
    simp only [List.map_cons, List.map_nil, List.mem_singleton] at h2
    obtain ⟨p, hp, e1⟩ := List.mem_map.mp h1
    exact ha (List.any_eq_true.mpr ⟨p, hp, by simp [e1, e, h2]⟩)
theorem cp_go {α : Type} : ∀ (t acc : List (Str × α)), ((acc ++ t).map (·.1)).Nodup → t.foldl (fun acc p => stI acc p.1 p.2) acc = acc ++ t
  | [], acc, _ => by simp
  | p :: r, acc, nd => by
    rw [List.foldl_cons]
    have hn : stI acc p.1 p.2 = acc ++ [p] := by
      unfold stI
      rw [if_neg]
      intro ha
      obtain ⟨q, hq, e⟩ := List.any_eq_true.mp ha
      rw [List.map_append, List.nodup_append] at nd
      exact nd.2.2 q.1 (List.mem_map.mpr ⟨q, hq, rfl⟩) p.1 (by simp) (by simpa using e)
    rw [hn, cp_go r (acc ++ [p]) (by simpa using nd), List.append_assoc]
    rfl
theorem cpC_nd {t : CD} (nd : (t.map (·.1)).Nodup) : cpC t = t := by
  unfold cpC
  rw [cp_go t [] (by simpa using nd)]
  rfl
theorem sub_len : ∀ {l l' : List Str}, l.Nodup → (∀ x ∈ l, x ∈ l') → l.length ≤ l'.length
  | [], _, _, _ => Nat.zero_le _
  | a :: t, l', nd, h => by
    rw [List.nodup_cons] at nd
    have ha := h a (.head _)
    have := sub_len (l := t) (l' := l'.erase a) nd.2 fun x hx => (List.mem_erase_of_ne (fun e => nd.1 (by rw [← e]; exact hx))).mpr (h x (.tail _ hx))
    rw [List.length_erase_of_mem ha] at this
    have := List.length_pos_of_mem ha
    simp only [List.length_cons]
    (first | lia | omega)
theorem len_keys {α β : Type} {x : List (Str × α)} {y : List (Str × β)} (nx : (x.map (·.1)).Nodup) (ny : (y.map (·.1)).Nodup) (h : ∀ n, vI x n = none ↔ vI y n = none) : x.length = y.length := by
  have h1 := sub_len nx fun n hn => Decidable.byContradiction fun hc => (vI_none.mp ((h n).mpr (vI_none.mpr hc))) hn
  have h2 := sub_len ny fun n hn => Decidable.byContradiction fun hc => (vI_none.mp ((h n).mp (vI_none.mpr hc))) hn
  rw [List.length_map, List.length_map] at h1 h2
  (first | lia | omega)
/-- one call told -/
structure Ev where
  n : Str
  cc : Int
  d : Int
  w : Int
  par : Option Str
def tot (f : Ev → Int) : List Ev → Int
  | [] => 0
  | e :: r => f e + tot f r
theorem tot_app (f : Ev → Int) (e : Ev) : ∀ l, tot f (l ++ [e]) = tot f l + f e
  | [] => by simp [tot]
  | a :: r => by simp only [List.cons_append, tot, tot_app f e r]; (first | lia | omega)
theorem tot_perm (f : Ev → Int) {l l' : List Ev} (h : l.Perm l') : tot f l = tot f l' := by
  induction h with
  | nil => rfl
  | cons x _ ih => simp only [tot, ih]
  | swap x y l => simp only [tot]; (first | lia | omega)
  | trans _ _ h1 h2 => rw [h1, h2]
theorem tot_zero {f : Ev → Int} : ∀ {l : List Ev}, (∀ e ∈ l, f e = 0) → tot f l = 0
  | [], _ => rfl
  | a :: r, h => by simp only [tot, h a (.head _), tot_zero fun e he => h e (.tail _ he)]; rfl
structure InvE (evs : List Ev) (n : Str) (e : En) : Prop where
  cc : e.cc = tot (fun v => if v.n = n then v.cc else 0) evs
  nc : e.nc = tot (fun v => if v.n = n then 1 else 0) evs
  tt : e.tt = tot (fun v => if v.n = n then v.d else 0) evs
  ct : e.ct = tot (fun v => if v.n = n then v.w else 0) evs
  nd : (e.cd.map (·.1)).Nodup
  no : ∀ c, vI e.cd c = none → ∀ v ∈ evs, v.n = n → v.par ≠ some c
  so : ∀ c k, vI e.cd c = some k → (∃ v ∈ evs, v.n = n ∧ v.par = some c) ∧ k = tot (fun v => if v.n = n ∧ v.par = some c then 1 else 0) evs
structure Inv (evs : List Ev) (bk : List (Str × En)) : Prop where
  nd : (bk.map (·.1)).Nodup
  no : ∀ n, vI bk n = none → ∀ v ∈ evs, v.n ≠ n
  so : ∀ n e, vI bk n = some e → (∃ v ∈ evs, v.n = n) ∧ InvE evs n e
theorem InvE.zero {evs : List Ev} {n : Str} (h : ∀ v ∈ evs, v.n ≠ n) : InvE evs n zeroE where
  cc := (tot_zero fun e he => if_neg (h e he)).symm
  nc := (tot_zero fun e he => if_neg (h e he)).symm
  tt := (tot_zero fun e he => if_neg (h e he)).symm
  ct := (tot_zero fun e he => if_neg (h e he)).symm
  nd := by simp [zeroE]
  no := fun c _ v hv e => absurd e (h v hv)
  so := fun c k e => by cases e
theorem Inv.ent {evs bk} (I : Inv evs bk) (n : Str) : InvE evs n ((vI bk n).getD zeroE) := by
  cases h : vI bk n with
  | none => exact .zero (I.no n h)
  | some e => exact (I.so n e h).2
theorem InvE.other {evs n e} (I : InvE evs n e) {v : Ev} (h : v.n ≠ n) : InvE (evs ++ [v]) n e where
  cc := by rw [tot_app, if_neg h, ← I.cc]; (first | lia | omega)
  nc := by rw [tot_app, if_neg h, ← I.nc]; (first | lia | omega)
  tt := by rw [tot_app, if_neg h, ← I.tt]; (first | lia | omega)
  ct := by rw [tot_app, if_neg h, ← I.ct]; (first | lia | omega)
  nd := I.nd
  no := fun c hc u hu e => by
    rcases List.mem_append.mp hu with hu | hu
    · exact I.no c hc u hu e
    · obtain rfl := List.mem_singleton.mp hu
      exact absurd e h
  so := fun c k hc => by
    obtain ⟨⟨u, hu, r⟩, e⟩ := I.so c k hc
    refine ⟨⟨u, List.mem_append_left _ hu, r⟩, ?_⟩
    rw [tot_app, if_neg fun x => h x.1, ← e]
    (first | lia | omega)
theorem Inv.step {evs bk} (I : Inv evs bk) {v : Ev} {e' : En} (h1 : e'.cc = ((vI bk v.n).getD zeroE).cc + v.cc) (h2 : e'.nc = ((vI bk v.n).getD zeroE).nc + 1) (h3 : e'.tt = ((vI bk v.n).getD zeroE).tt + v.d)
    (h4 : e'.ct = ((vI bk v.n).getD zeroE).ct + v.w) (h5 : (e'.cd.map (·.1)).Nodup) (h6 : ∀ c, vI e'.cd c = if v.par = some c then some ((vI ((vI bk v.n).getD zeroE).cd c).getD 0 + 1) else vI ((vI bk v.n).getD zeroE).cd c) : Inv (evs ++ [v]) (stI bk v.n e') := by
  have J := I.ent v.n
  generalize (vI bk v.n).getD zeroE = e0 at *
  have Jn : InvE (evs ++ [v]) v.n e' := {
    cc := by rw [tot_app, if_pos rfl, ← J.cc]; exact h1
    nc := by rw [tot_app, if_pos rfl, ← J.nc]; exact h2
    tt := by rw [tot_app, if_pos rfl, ← J.tt]; exact h3
    ct := by rw [tot_app, if_pos rfl, ← J.ct]; exact h4
    nd := h5
    no := fun c hc u hu e => by
      rw [h6] at hc
      by_cases hp : v.par = some c
      · rw [if_pos hp] at hc; cases hc
      · rw [if_neg hp] at hc
        rcases List.mem_append.mp hu with hu | hu
        · exact J.no c hc u hu e
        · obtain rfl := List.mem_singleton.mp hu
          exact hp
    so := fun c k hc => by
      rw [h6] at hc
      by_cases hp : v.par = some c
      · rw [if_pos hp] at hc
        obtain rfl := Option.some.inj hc
        refine ⟨⟨v, List.mem_append_right _ (.head _), rfl, hp⟩, ?_⟩
        rw [tot_app, if_pos ⟨rfl, hp⟩]
        congr 1
        cases hv : vI e0.cd c with
        | none =>
          refine (tot_zero fun u hu => ?_).symm
          exact if_neg fun x => J.no c hv u hu x.1 x.2
        | some k => exact (J.so c k hv).2
      · rw [if_neg hp] at hc
        obtain ⟨⟨u, hu, r⟩, e⟩ := J.so c k hc
        refine ⟨⟨u, List.mem_append_left _ hu, r⟩, ?_⟩
        rw [tot_app, if_neg fun x => hp x.2, ← e]
        (first | lia | omega) }
  refine ⟨stI_nd I.nd, fun n hn => ?_, fun n e hn => ?_⟩
  · rw [vI_stI'] at hn
    by_cases h : v.n = n
    · rw [if_pos h] at hn; cases hn
    · rw [if_neg h] at hn
      intro u hu
      rcases List.mem_append.mp hu with hu | hu
      · exact I.no n hn u hu
      · obtain rfl := List.mem_singleton.mp hu
        exact h
  · rw [vI_stI'] at hn
    by_cases h : v.n = n
    · rw [if_pos h] at hn
      obtain rfl := Option.some.inj hn
      subst h
      exact ⟨⟨v, List.mem_append_right _ (.head _), rfl⟩, Jn⟩
    · rw [if_neg h] at hn
      obtain ⟨⟨u, hu, r⟩, e⟩ := I.so n e hn
      exact ⟨⟨u, List.mem_append_left _ hu, r⟩, e.other h⟩
theorem Inv.nil : Inv [] [] := ⟨by simp, fun n _ v hv => (nomatch hv), fun n e h => by cases h⟩
def evE (v : Ev) : Str × En := (v.n, ⟨v.cc, 1, v.d, v.w, match v.par with | none => [] | some c => [(c, 1)]⟩)
theorem Inv.put {evs bk} (I : Inv evs bk) (v : Ev) : Inv (evs ++ [v]) (putE bk (evE v)) := by
  have J := I.ent v.n
  unfold putE
  refine I.step (e' := addE ((vI bk v.n).getD zeroE) (evE v).2) (Int.add_comm _ _) (Int.add_comm _ _) (Int.add_comm _ _) (Int.add_comm _ _) ?_ ?_
  · generalize (vI bk v.n).getD zeroE = e0 at *
    show ((addC e0.cd (evE v).2.cd).map _).Nodup
    unfold addC
    rw [cpC_nd J.nd]
    unfold evE
    cases v.par with
    | none => exact J.nd
    | some c => exact stI_nd J.nd
  · intro c
    generalize (vI bk v.n).getD zeroE = e0 at *
    show vI (addC e0.cd (evE v).2.cd) c = _
    unfold addC
    rw [cpC_nd J.nd]
    unfold evE
    cases v.par with
    | none => simp
    | some c' =>
      show vI (adC e0.cd (c', 1)) c = _
      unfold adC
      rw [vI_stI']
      by_cases h : c' = c
      · subst h
        simp only [if_true]
        cases vI e0.cd c' <;> rfl
      · rw [if_neg h, if_neg (fun e => h (Option.some.inj e))]
theorem Inv.tells {evs bk} (I : Inv evs bk) {v : Ev} {path : List Str} {x : (Int × Str) × Int} (h1 : v.n = x.1.2) (h2 : v.cc = if (path.take x.1.1.toNat).any (· == x.1.2) then 0 else 1) (h3 : v.d = x.1.1) (h4 : v.w = x.2) (h5 : v.par = (path.take x.1.1.toNat).getLast?) :
    Inv (evs ++ [v]) (tStep (bk, path) x).1 := by
  have J := I.ent v.n
  unfold tStep
  simp only
  rw [← h1]
  refine I.step ?_ rfl ?_ ?_ ?_ ?_
  · rw [h2, h1]
  · rw [h3]
  · rw [h4]
  · simp only
    rw [← h5]
    cases v.par with
    | none => exact J.nd
    | some c => exact stI_nd J.nd
  · intro c
    simp only
    rw [← h5]
    cases v.par with
    | none => simp
    | some c' =>
      simp only
      rw [vI_stI']
      by_cases h : c' = c
      · subst h; simp
      · rw [if_neg h, if_neg (fun e => h (Option.some.inj e))]
theorem Inv.same {evs evs' : List Ev} {x y : List (Str × En)} (I : Inv evs x) (J : Inv evs' y) (p : evs.Perm evs') : SameB x y := by
  have hno : ∀ n, vI x n = none ↔ vI y n = none := by
    intro n
    constructor
    · intro h
      cases hy : vI y n with
      | none => rfl
      | some e =>
        obtain ⟨⟨v, hv, e⟩, _⟩ := J.so n e hy
        exact absurd e (I.no n h v (p.mem_iff.mpr hv))
    · intro h
      cases hx : vI x n with
      | none => rfl
      | some e =>
        obtain ⟨⟨v, hv, e⟩, _⟩ := I.so n e hx
        exact absurd e (J.no n h v (p.mem_iff.mp hv))
  refine ⟨len_keys I.nd J.nd hno, fun n e he => ?_⟩
  have hx := vI_some I.nd he
  cases hy : vI y n with
  | none => rw [(hno n).mpr hy] at hx; cases hx
  | some e' =>
    refine ⟨e', rfl, ?_⟩
    obtain ⟨_, P⟩ := I.so n e hx
    obtain ⟨_, Q⟩ := J.so n e' hy
    have hc : ∀ c, vI e.cd c = none ↔ vI e'.cd c = none := by
      intro c
      constructor
      · intro h
        cases h' : vI e'.cd c with
        | none => rfl
        | some k =>
          obtain ⟨⟨v, hv, e1, e2⟩, _⟩ := Q.so c k h'
          exact absurd e2 (P.no c h v (p.mem_iff.mpr hv) e1)
      · intro h
        cases h' : vI e.cd c with
        | none => rfl
        | some k =>
          obtain ⟨⟨v, hv, e1, e2⟩, _⟩ := P.so c k h'
          exact absurd e2 (Q.no c h v (p.mem_iff.mp hv) e1)
    refine ⟨by rw [P.cc, Q.cc, tot_perm _ p], by rw [P.nc, Q.nc, tot_perm _ p], by rw [P.tt, Q.tt, tot_perm _ p], by rw [P.ct, Q.ct, tot_perm _ p], len_keys P.nd Q.nd hc, fun c k hk => ?_⟩
    have hk' := vI_some P.nd hk
    cases h' : vI e'.cd c with
    | none => rw [(hc c).mpr h'] at hk'; cases hk'
    | some k' => rw [(P.so c k hk').2, (Q.so c k' h').2, tot_perm _ p]
end Mine
end
section
open PySem PySem.W PyProof.Rows PySem.Calls
set_option maxRecDepth 100000
set_option maxHeartbeats 2000000
namespace Mine
theorem up_a1 : runs (okAll 1) 3 [0,1,1,1] 1 = true := by decide +kernel
theorem up_a2 : runs (okAll 1) 3 [0,1,1,2] 2 = true := by decide +kernel
theorem up_a3 : runs (okAll 1) 3 [0,1,2,1] 1 = true := by decide +kernel
theorem up_a4 : runs (okAll 1) 3 [0,1,2,2] 2 = true := by decide +kernel
theorem up_b1 : runs (okAll 1) 2 [0,1,2,3,1] 1 = true := by decide +kernel
theorem up_b2 : runs (okAll 1) 2 [0,1,2,3,2] 2 = true := by decide +kernel
theorem up_b3 : runs (okAll 1) 2 [0,1,2,3,3] 3 = true := by decide +kernel
theorem up_b4 : runs (okAll 1) 2 [0,1,2,3,4] 4 = true := by decide +kernel
theorem dn_a1 : runs (okAll (-1)) 3 [0,1,1,1] 1 = true := by decide +kernel
theorem dn_a2 : runs (okAll (-1)) 3 [0,1,1,2] 2 = true := by decide +kernel
theorem dn_a3 : runs (okAll (-1)) 3 [0,1,2,1] 1 = true := by decide +kernel
theorem dn_a4 : runs (okAll (-1)) 3 [0,1,2,2] 2 = true := by decide +kernel
theorem dn_b1 : runs (okAll (-1)) 2 [0,1,2,3,1] 1 = true := by decide +kernel
theorem dn_b2 : runs (okAll (-1)) 2 [0,1,2,3,2] 2 = true := by decide +kernel
theorem dn_b3 : runs (okAll (-1)) 2 [0,1,2,3,3] 3 = true := by decide +kernel
theorem dn_b4 : runs (okAll (-1)) 2 [0,1,2,3,4] 4 = true := by decide +kernel
theorem runs_succ {f : List Int → Bool} {n : Nat} {D : List Int} {d : Nat} (h : ∀ k, k < d + 1 → runs f n (D ++ [((k + 1 : Nat) : Int)]) (k + 1) = true) : runs f (n + 1) D d = true :=
  List.all_eq_true.mpr fun k hk => h k (List.mem_range.mp hk)
theorem runs_all {f : List Int → Bool} (a1 : runs f 3 [0,1,1,1] 1 = true) (a2 : runs f 3 [0,1,1,2] 2 = true) (a3 : runs f 3 [0,1,2,1] 1 = true) (a4 : runs f 3 [0,1,2,2] 2 = true) (b1 : runs f 2 [0,1,2,3,1] 1 = true) (b2 : runs f 2 [0,1,2,3,2] 2 = true) (b3 : runs f 2 [0,1,2,3,3] 3 = true) (b4 : runs f 2 [0,1,2,3,4] 4 = true) : runs f 6 [0] 0 = true := by
  refine runs_succ fun k hk => ?_
  obtain rfl : k = 0 := by omega
  refine runs_succ fun k hk => ?_
  have e : k = 0 ∨ k = 1 := by omega
  rcases e with rfl | rfl
  · refine runs_succ fun k hk => ?_
    have e : k = 0 ∨ k = 1 := by omega
    rcases e with rfl | rfl
    · exact a1
    · exact a2
  · refine runs_succ fun k hk => ?_
    have e : k = 0 ∨ k = 1 ∨ k = 2 := by omega
    rcases e with rfl | rfl | rfl
    · exact a3
    · exact a4
    · refine runs_succ fun k hk => ?_
      have e : k = 0 ∨ k = 1 ∨ k = 2 ∨ k = 3 := by omega
      rcases e with rfl | rfl | rfl | rfl
      · exact b1
      · exact b2
      · exact b3
      · exact b4
theorem runs_up : runs (okAll 1) 6 [0] 0 = true := runs_all up_a1 up_a2 up_a3 up_a4 up_b1 up_b2 up_b3 up_b4
theorem runs_dn : runs (okAll (-1)) 6 [0] 0 = true := runs_all dn_a1 dn_a2 dn_a3 dn_a4 dn_b1 dn_b2 dn_b3 dn_b4
theorem runs_go {f : List Int → Bool} (h0 : runs f 6 [0] 0 = true) {ds : List (Int × Str)} {d : Int} (h : Run ds d) : ∀ k, ds.length + k = 7 → runs f k (ds.map (·.1)) d.toNat = true := by
  induction h with
  | one h => intro k hk; obtain rfl : k = 6 := by simp at hk; (first | lia | omega)
             exact h0
  | @step ds d d' n hr h1 h2 h3 ih =>
    intro k hk
    have := ih (k + 1) (by simp at hk; (first | lia | omega))
    unfold runs at this
    have hd := hr.nonneg
    have hm := List.all_eq_true.mp this (d'.toNat - 1) (List.mem_range.mpr (by (first | lia | omega)))
    have e1 : d'.toNat - 1 + 1 = d'.toNat := by (first | lia | omega)
    have e2 : ((d'.toNat : Nat) : Int) = d' := by (first | lia | omega)
    rw [e1, e2] at hm
    rw [List.map_append]
    exact hm
theorem ok_run {ds d way} (h : Run ds d) (hl : ds.length = 7) (hw : way = 1 ∨ way = -1) : okAll way (ds.map (·.1)) = true := by
  rcases hw with rfl | rfl
  · exact runs_go runs_up h 0 (by (first | lia | omega))
  · exact runs_go runs_dn h 0 (by (first | lia | omega))
end Mine
end
section
open PySem PySem.W PyProof.Rows PySem.Calls
set_option maxRecDepth 100000
set_option maxHeartbeats 2000000
namespace Mine
def evT (ds : List (Int × Str)) (W : List Int) (p : Nat) : Ev :=
  let an := (ancP (ds.map (·.1)) p).map (namF ds)
  ⟨namF ds p, if an.any (· == namF ds p) then 0 else 1, dAt ds p, W.getD p 0, an.getLast?⟩
theorem told_inv (ds : List (Int × Str)) (W : List Int) : ∀ n, Inv ((List.range n).map (evT ds W)) (toldF ds W n).1 ∧ (toldF ds W n).2 = (pathP (ds.map (·.1)) n).map (namF ds)
  | 0 => ⟨.nil, rfl⟩
  | n + 1 => by
    obtain ⟨I, e⟩ := told_inv ds W n
    rw [toldF_succ, List.range_succ, List.map_append]
    have e2 : ((pathP (ds.map (·.1)) n).map (namF ds)).take (dAt ds n).toNat = (ancP (ds.map (·.1)) n).map (namF ds) := by
      unfold ancP
      rw [← List.map_take, dAt_eq]
    generalize hT : toldF ds W n = T at *
    obtain ⟨bk, path⟩ := T
    simp only at I e
    subst e
    constructor
    · refine I.tells (v := evT ds W n) rfl ?_ rfl rfl ?_
      · show _ = if (((pathP (ds.map (·.1)) n).map (namF ds)).take (dAt ds n).toNat).any _ then _ else _
        rw [e2]
        rfl
      · show _ = (((pathP (ds.map (·.1)) n).map (namF ds)).take (dAt ds n).toNat).getLast?
        rw [e2]
        rfl
    · show (((pathP (ds.map (·.1)) n).map (namF ds)).take (dAt ds n).toNat) ++ [namF ds n] = _
      rw [e2]
      unfold pathP ancP
      rw [List.map_append]
      rfl
theorem oneC_rev (l : List Str) : oneC l.reverse = match l.getLast? with | none => [] | some c => [(c, 1)] := by
  rw [← List.head?_reverse]
  cases l.reverse <;> rfl
section
variable {ds : List (Int × Str)} {way : Int} {lp : LnP}
theorem getD_map7 (hl : lp.length = 7) {i : Nat} (hi : i < 7) : (lp.map (addN ds)).getD i default = addN ds (lp.getD i default) := by
  simp only [List.getD_eq_getElem?_getD, List.getElem?_map]
  rw [List.getElem?_eq_getElem (by (first | lia | omega))]
  rfl
theorem mem_lp (hl : lp.length = 7) {i : Nat} (hi : i < 7) : lp.getD i default ∈ lp := by
  rw [List.getD_eq_getElem?_getD, List.getElem?_eq_getElem (by (first | lia | omega))]
  exact List.getElem_mem _
theorem evP_eq {sp q W : List Int} {i : Nat} (hi : i < 7) (hl : lp.length = 7) (hpd : ∀ p ∈ lp, p.1 = dAt ds p.2.toNat + 2) (hq : q = lp.map fun p => W.getD p.2.toNat 0)
    (hch : ∀ j, j < ((lp.getD i default).1 - 2).toNat → 0 ≤ atF sp i (j + 1) ∧ atF sp i (j + 1) < 7)
    (han : ((List.range ((lp.getD i default).1 - 2).toNat).map fun j => (lp.getD (atF sp i (j + 1)).toNat default).2.toNat) = (ancP (ds.map (·.1)) (lp.getD i default).2.toNat).reverse) :
    evP (lp.map (addN ds)) sp q i = evE (evT ds W (lp.getD i default).2.toNat) := by
  have hab : abvF (lp.map (addN ds)) sp i ((lp.getD i default).1 - 2).toNat = ((ancP (ds.map (·.1)) (lp.getD i default).2.toNat).map (namF ds)).reverse := by
    rw [← List.map_reverse, ← han, List.map_map]
    unfold abvF
    refine List.map_congr_left fun j hj => ?_
    have := hch j (List.mem_range.mp hj)
    rw [getD_map7 hl (by (first | lia | omega))]
    rfl
  unfold evP
  simp only
  rw [getD_map7 hl hi]
  show (namF ds (lp.getD i default).2.toNat, (⟨if (abvF (lp.map (addN ds)) sp i ((lp.getD i default).1 - 2).toNat).any _ then 0 else 1, 1, (lp.getD i default).1 - 2, q.getD i 0, oneC (abvF (lp.map (addN ds)) sp i ((lp.getD i default).1 - 2).toNat)⟩ : En)) = _
  rw [hab, List.any_reverse, oneC_rev]
  have hd := hpd _ (mem_lp hl hi)
  have hqi : q.getD i 0 = W.getD (lp.getD i default).2.toNat 0 := by
    rw [hq]
    simp only [List.getD_eq_getElem?_getD, List.getElem?_map]
    rw [List.getElem?_eq_getElem (show i < lp.length by (first | lia | omega))]
    rfl
  rw [hqi]
  rw [show (lp.getD i default).1 - 2 = dAt ds (lp.getD i default).2.toNat by (first | lia | omega)]
  rfl
theorem prof_inv {sp q W : List Int} (hl : lp.length = 7) (hpd : ∀ p ∈ lp, p.1 = dAt ds p.2.toNat + 2) (hq : q = lp.map fun p => W.getD p.2.toNat 0)
    (hch : ∀ i, i < 7 → ∀ j, j < ((lp.getD i default).1 - 2).toNat → 0 ≤ atF sp i (j + 1) ∧ atF sp i (j + 1) < 7)
    (han : ∀ i, i < 7 → ((List.range ((lp.getD i default).1 - 2).toNat).map fun j => (lp.getD (atF sp i (j + 1)).toNat default).2.toNat) = (ancP (ds.map (·.1)) (lp.getD i default).2.toNat).reverse) :
    ∀ n, n ≤ 7 → Inv ((List.range n).map fun i => evT ds W (lp.getD i default).2.toNat) (profF (lp.map (addN ds)) sp q n)
  | 0, _ => .nil
  | n + 1, h => by
    rw [profF_succ, List.range_succ, List.map_append, evP_eq (by (first | lia | omega)) hl hpd hq (hch n (by (first | lia | omega))) (han n (by (first | lia | omega)))]
    exact (prof_inv hl hpd hq hch han n (by (first | lia | omega))).put _
end
theorem rowS_rd {d : Int} {n : Str} (h : OkN n) : rowS (d, n) = dotsS (d.toNat + 2) ++ n := by
  show rowS (d, n) = Str.append _ _
  unfold rowS lineN rowOf dotsS Str.append
  simp only
  have := h.cd.1
  obtain ⟨c⟩ := n
  simp only at this ⊢
  congr 1
  apply Array.toList_inj.mp
  simp [this]
theorem plain {ds : List (Int × Str)} {d way : Int} (h : Run ds d) (hl : ds.length = 7) (hw : way = 1 ∨ way = -1) : Plain way ds := by
  have hok := ok_run h hl hw
  obtain ⟨hall, _, _⟩ := h.all
  have hr : ∀ p ∈ ds, 0 ≤ p.1 ∧ OkN p.2 := fun p hp => ⟨(hall p hp).1, (hall p hp).2.2⟩
  have eL := lnF_eq (way := way) hr
  have eQ := q_eq (way := way) hr
  have eP := pl_eq (way := way) hr
  have eN := nms_eq (way := way) hr
  have eS : spotsF way (lnF way ds) = spotsP way (lineP way (ds.map (·.1)) 0 []) := by rw [eL, spots_addN]
  have eW := waits_eq (way := way) hl
  have hDl : (ds.map (·.1)).length = 7 := by rw [List.length_map, hl]
  unfold okAll at hok
  simp only [Bool.and_eq_true] at hok
  generalize hlp : lineP way (ds.map (·.1)) 0 [] = lp at *
  obtain ⟨⟨⟨⟨⟨⟨⟨⟨⟨⟨k1, k2⟩, k3⟩, k4⟩, k5⟩, k6⟩, k7⟩, k8⟩, k9⟩, k10⟩, k11⟩ := hok
  have hl7 : lp.length = 7 := by simpa [okLen] using k1
  have hpm := List.isPerm_iff.mp k2
  have hpd : ∀ p ∈ lp, 0 ≤ p.2 ∧ p.2 < 7 ∧ p.1 = dAt ds p.2.toNat + 2 := by
    intro p hp
    have := List.all_eq_true.mp k3 p hp
    simp only [Bool.and_eq_true, decide_eq_true_eq, beq_iff_eq] at this
    rw [dAt_eq]
    exact ⟨this.1.1, this.1.2, this.2⟩
  have hq : qP way lp = lp.map fun p => (waitsP way (ds.map (·.1))).getD p.2.toNat 0 := by
    have := k5
    unfold okQue at this
    exact beq_iff_eq.mp this
  have hch : ∀ i, i < 7 → ∀ j, j < ((lp.getD i default).1 - 2).toNat → 0 ≤ atF (spotsP way lp) i (j + 1) ∧ atF (spotsP way lp) i (j + 1) < 7 := by
    intro i hi j hj
    have := List.all_eq_true.mp (List.all_eq_true.mp k6 i (List.mem_range.mpr hi)) j (List.mem_range.mpr hj)
    simpa only [Bool.and_eq_true, decide_eq_true_eq] using this
  have han : ∀ i, i < 7 → ((List.range ((lp.getD i default).1 - 2).toNat).map fun j => (lp.getD (atF (spotsP way lp) i (j + 1)).toNat default).2.toNat) = (ancP (ds.map (·.1)) (lp.getD i default).2.toNat).reverse := by
    intro i hi
    exact beq_iff_eq.mp (List.all_eq_true.mp k8 i (List.mem_range.mpr hi))
  have hgl : ∀ i, i < 7 → ((lnF way ds).getD i default).1 = (lp.getD i default).1 := by
    intro i hi
    rw [eL, getD_map7 hl7 hi]
    rfl
  have hln : (lnF way ds).length = 7 := by rw [eL, List.length_map, hl7]
  have hnm : ∀ k, (namF ds k).length ≤ 10 := by
    intro k
    unfold namF
    rw [List.getD_eq_getElem?_getD]
    by_cases hk : k < ds.length
    · rw [List.getElem?_eq_getElem hk]
      have := (hall _ (List.getElem_mem hk)).2.2.cd.1
      show (ds[k].2).cps.size ≤ 10
      rw [← Array.length_toList, this]
      simp
    · rw [List.getElem?_eq_none (by (first | lia | omega))]
      show (0 : Nat) ≤ 10
      (first | lia | omega)
  refine ⟨?_, ?_, ?_, ?_, ?_, ?_, ?_, ?_, ?_⟩
  · -- srt
    unfold okSrt at k4
    have e : (fun (i : Nat) => (dAt ds i, way * (i : Int))) = fun (i : Nat) => ((ds.map (·.1)).getD i 0, way * (i : Int)) := by funext i; rw [dAt_eq]
    rw [e, eP]
    cases hc : runC 7 (lexB fun (i : Nat) => ((ds.map (·.1)).getD i 0, way * (i : Int))) (kas_sort 7) with
    | none => rw [hc] at k4; cases k4
    | some p =>
      rw [hc] at k4
      simp only [Bool.and_eq_true, beq_iff_eq, List.all_eq_true, decide_eq_true_eq] at k4
      exact ⟨p, rfl, k4.1, k4.2⟩
  · rw [eQ, eP, eW, hq, List.map_map]
    rfl
  · intro i j hi hj
    rw [hln] at hi ⊢
    rw [hgl i hi] at hj
    rw [eS]
    exact hch i hi j (by (first | lia | omega))
  · intro x hx
    rw [eL] at hx
    obtain ⟨p, hp, rfl⟩ := List.mem_map.mp hx
    have := List.all_eq_true.mp k7 p hp
    show 0 ≤ p.1 ∧ p.1 ≤ 90
    simpa only [Bool.and_eq_true, decide_eq_true_eq] using this
  · intro x hx
    rw [eN] at hx
    obtain ⟨p, hp, rfl⟩ := List.mem_map.mp hx
    exact hnm _
  · -- book
    rw [eS, eQ, eL, eW]
    clear k1 k2 k3 k4 k5 k6 k7 k8 k9 k10 k11 eL eQ eP eN eS eW
    generalize waitsP way (ds.map (·.1)) = W at *
    have pm := hpm.map (evT ds W)
    rw [List.map_map] at pm
    generalize spotsP way lp = sp at *
    generalize qP way lp = q at *
    have b1 := prof_inv (ds := ds) (sp := sp) (q := q) (W := W) hl7 (fun p hp => (hpd p hp).2.2) hq hch han 7 (Nat.le_refl 7)
    have b2 := (told_inv ds W 7).1
    exact b1.same b2 pm
  · intro i h1 h2
    rw [eQ]
    have := List.all_eq_true.mp k9 i (List.mem_range.mpr h2)
    simp only [Bool.or_eq_true, Bool.and_eq_true, beq_iff_eq, decide_eq_true_eq] at this
    rcases this with rfl | this
    · (first | lia | omega)
    · exact this
  · -- rd
    rw [eQ, eN]
    unfold okRd at k10
    simp only at k10
    cases hc : runR (undF (fun i => (i : Int) - (qP way lp).getD i 0 - 1) 6) way 20 [(0, 0)] [] with
    | none => rw [hc] at k10; cases k10
    | some res =>
      rw [hc] at k10
      simp only [Bool.and_eq_true, beq_iff_eq, List.all_eq_true, decide_eq_true_eq] at k10
      obtain ⟨ka, kb⟩ := k10
      refine ⟨res, rfl, ?_⟩
      have e1 : res.map (rdS (lp.map fun p => namF ds p.2.toNat)) = (res.map fun p => ((lp.getD p.1 default).2.toNat, p.2)).map fun x => dotsS (x.2 + 2) ++ namF ds x.1 := by
        rw [List.map_map]
        refine List.map_congr_left fun p hp => ?_
        have := kb p hp
        unfold rdS
        have e2 : (lp.map fun p => namF ds p.2.toNat).getD p.1 default = namF ds (lp.getD p.1 default).2.toNat := by
          simp only [List.getD_eq_getElem?_getD, List.getElem?_map]
          rw [List.getElem?_eq_getElem (show p.1 < lp.length by (first | lia | omega))]
          rfl
        rw [e2]
        rfl
      rw [e1, ka, List.map_map]
      refine List.ext_getElem (by simp [hl]) fun k g1 g2 => ?_
      have hk : k < ds.length := by rw [List.length_map] at g2; exact g2
      rw [List.getElem_map, List.getElem_map, List.getElem_range]
      show dotsS (((List.map (fun p : Int × Str => p.1) ds).getD k 0).toNat + 2) ++ namF ds k = rowS ds[k]
      rw [← dAt_eq]
      have e3 : ds.getD k default = ds[k] := by rw [List.getD_eq_getElem?_getD, List.getElem?_eq_getElem hk]; rfl
      unfold dAt namF
      rw [e3]
      exact (rowS_rd (hall _ (List.getElem_mem hk)).2.2).symm
  · -- stp
    intro M h1 h2
    rw [eQ]
    have := List.all_eq_true.mp k11 M h1
    simp only [Bool.or_eq_true, Bool.not_eq_true', beq_iff_eq] at this
    rcases this with this | this
    · have h3 : (ds.map (·.1)).all (fun a => decide (a ≤ M)) = true := List.all_eq_true.mpr fun a ha => decide_eq_true (h2 a ha)
      rw [h3] at this
      cases this
    · exact this
end Mine
end
section
set_option maxHeartbeats 8000000
open_top Mine.hd for PySem.Challenge.rw_re0064_01
end
section
open PySem PySem.W PyProof.Rows PySem.Calls
set_option maxRecDepth 100000
set_option maxHeartbeats 4000000
namespace Mine
def fdIn (K : Frag) (f : Addr) : Option FuncData := match K.lookup f with
  | some ⟨_, _, .func fd, _⟩ => some fd
  | _ => none
theorem fdIn_of {K : Frag} {h : Heap} (X : K.In h) {f : Addr} {fd : FuncData} (e : fdIn K f = some fd) : ∃ o, h.get? f = some o ∧ o.data = .func fd := by
  unfold fdIn at e
  split at e
  · rename_i c d fd' sl q
    obtain rfl := Option.some.inj e
    exact ⟨_, X _ _ q, rfl⟩
  · cases e
theorem fnC_in {K : Frag} {h : Heap} (X : K.In h) {f : Addr} {n q : Str} {d : Dfn} {dV kV cd doc pm ct : Value} {an : Option Addr} (e : fdIn K f = some (fnOf n q d.1 d.2.1 d.2.2 dV kV doc pm an cd ct)) (c : codeIn K cd q = true) : FnC h f n q d dV kV cd := by
  obtain ⟨o, h1, h2⟩ := fdIn_of X e
  exact ⟨o, doc, pm, an, ct, h1, h2, codeRec_of X c⟩
theorem ns_one {K : Frag} {h : Heap} (X : K.In h) {D : Addr} {hs : Int} {x : Str} {t : Tok} {v : Value} {c : Value} {n : Nat} {d : Option Addr} {sl : Array (Option Value)} (e : K.lookup D = some ⟨c, d, .dict #[⟨hs, .str x t, v⟩] n, sl⟩) : ∃ md, h.Ns D md ∧ md x = some v := by
  refine ⟨nsFind #[⟨hs, .str x t, v⟩], ⟨_, _, _, X _ _ e, rfl, ?_, fun _ => rfl⟩, ?_⟩
  · intro e he
    obtain rfl : e = ⟨hs, .str x t, v⟩ := by simpa using he
    exact ⟨_, _, rfl⟩
  · simp [nsFind, findBy, Value.isStr]
abbrev mdl : Value := .str (Str.ofString "law_re0064_01") 467
def la : La := {
  C := 55
  fI := 45
  fC := 52
  fCalls := 124
  fFolded := 131
  fMail := 138
  fQuote := 117
  fLine := 145
  fCallers := 152
  fProfile := 159
  fWaits := 164
  fTold := 171
  fRead := 176
  fStops := 181
  fAfs := 66
  fAc := 73
  fIns := 82
  fBr := 91
  fBl := 100
  P1 := 105
  P2 := 110
  cL := 144
  PL := 140
  cC := 151
  PC := 147
  cW := 185
  PW := 183
  dI := .ref 74
  kI := .ref 75
  dR := .ref 83
  kR := .ref 84
  dB := .ref 92
  kB := .ref 93
  cdWaits := .ref 163
  cdRead := .ref 175
  cdStops := .ref 180
  tk0 := 384 }
section
variable {h : Heap} {p : Params} {mg mb : Str → Option Value}
theorem fFolded_ok (X : (hd.heap_39 p).In h) : Fn h 131 "_law_folded" 16 .none .none :=
  (fnC_in X (cd := .ref 130) (pm := .str (Str.ofString "law_re0064_01") 467) (doc := .none) (an := none) (ct := .none) (by kernel_rfl) (by kernel_rfl)).d
theorem fCalls_ok (X : (hd.heap_39 p).In h) : Fn h 124 "_law_calls" 15 .none .none :=
  (fnC_in X (cd := .ref 123) (pm := .str (Str.ofString "law_re0064_01") 467) (doc := .none) (an := none) (ct := .none) (by kernel_rfl) (by kernel_rfl)).d
theorem fMail_ok (X : (hd.heap_39 p).In h) : Fn h 138 "_law_mail" 17 .none .none :=
  (fnC_in X (cd := .ref 137) (pm := .str (Str.ofString "law_re0064_01") 467) (doc := .none) (an := none) (ct := .none) (by kernel_rfl) (by kernel_rfl)).d
theorem fProfile_ok (X : (hd.heap_39 p).In h) : Fn h 159 "_law_profile" 20 .none .none :=
  (fnC_in X (cd := .ref 158) (pm := .str (Str.ofString "law_re0064_01") 467) (doc := .none) (an := none) (ct := .none) (by kernel_rfl) (by kernel_rfl)).d
theorem fTold_ok (X : (hd.heap_39 p).In h) : Fn h 171 "_law_told" 22 .none .none :=
  (fnC_in X (cd := .ref 170) (pm := .str (Str.ofString "law_re0064_01") 467) (doc := .none) (an := none) (ct := .none) (by kernel_rfl) (by kernel_rfl)).d
theorem fLine_ok (X : (hd.heap_39 p).In h) : FnC h 145 "_law_line" "_law_line" (defAt 18) .none .none (.ref 144) :=
  fnC_in X (cd := .ref 144) (pm := .str (Str.ofString "law_re0064_01") 467) (doc := .none) (an := none) (ct := .none) (by kernel_rfl) (by kernel_rfl)
theorem fCallers_ok (X : (hd.heap_39 p).In h) : FnC h 152 "_law_callers" "_law_callers" (defAt 19) .none .none (.ref 151) :=
  fnC_in X (cd := .ref 151) (pm := .str (Str.ofString "law_re0064_01") 467) (doc := .none) (an := none) (ct := .none) (by kernel_rfl) (by kernel_rfl)
theorem fWaits_ok (X : (hd.heap_39 p).In h) : FnC h 164 "_law_waits" "_law_waits" (defAt 21) .none .none (.ref 163) :=
  fnC_in X (cd := .ref 163) (pm := .str (Str.ofString "law_re0064_01") 467) (doc := .none) (an := none) (ct := .none) (by kernel_rfl) (by kernel_rfl)
theorem fRead_ok (X : (hd.heap_39 p).In h) : FnC h 176 "_law_read" "_law_read" (defAt 23) .none .none (.ref 175) :=
  fnC_in X (cd := .ref 175) (pm := .str (Str.ofString "law_re0064_01") 467) (doc := .none) (an := none) (ct := .none) (by kernel_rfl) (by kernel_rfl)
theorem fStops_ok (X : (hd.heap_39 p).In h) : FnC h 181 "_law_stops" "_law_stops" (defAt 24) .none .none (.ref 180) :=
  fnC_in X (cd := .ref 180) (pm := .str (Str.ofString "law_re0064_01") 467) (doc := .none) (an := none) (ct := .none) (by kernel_rfl) (by kernel_rfl)
theorem fQuote_ok (X : (hd.heap_39 p).In h) : Fn h 117 "quotedata" 13 .none .none :=
  (fnC_in X (cd := .ref 116) (pm := .str (Str.ofString "cpy313.smtplib") 398) (doc := .none) (an := none) (ct := .none) (by kernel_rfl) (by kernel_rfl)).d
theorem fAfs_ok (X : (hd.heap_39 p).In h) : Fn h 66 "add_func_stats" 3 .none .none :=
  (fnC_in X (cd := .ref 65) (pm := .str (Str.ofString "cpy313.pstats") 282) (doc := .none) (an := none) (ct := .none) (by kernel_rfl) (by kernel_rfl)).d
theorem fAc_ok (X : (hd.heap_39 p).In h) : Fn h 73 "add_callers" 4 .none .none :=
  (fnC_in X (cd := .ref 72) (pm := .str (Str.ofString "cpy313.pstats") 282) (doc := .none) (an := none) (ct := .none) (by kernel_rfl) (by kernel_rfl)).d
theorem fIns_ok (X : (hd.heap_39 p).In h) : Fn h 82 "insort_right" 6 (.ref 74) (.ref 75) :=
  (fnC_in X (cd := .ref 81) (pm := .str (Str.ofString "cpy313.bisect") 355) (doc := .none) (an := none) (ct := .none) (by kernel_rfl) (by kernel_rfl)).d
theorem fBr_ok (X : (hd.heap_39 p).In h) : Fn h 91 "bisect_right" 7 (.ref 83) (.ref 84) :=
  (fnC_in X (cd := .ref 90) (pm := .str (Str.ofString "cpy313.bisect") 355) (doc := .none) (an := none) (ct := .none) (by kernel_rfl) (by kernel_rfl)).d
theorem fBl_ok (X : (hd.heap_39 p).In h) : Fn h 100 "bisect_left" 8 (.ref 92) (.ref 93) :=
  (fnC_in X (cd := .ref 99) (pm := .str (Str.ofString "cpy313.bisect") 355) (doc := .none) (an := none) (ct := .none) (by kernel_rfl) (by kernel_rfl)).d
theorem fI_ok (X : (hd.heap_39 p).In h) : FnD h 45 "__init__" "TupleComp.__init__" (methAt 0) .none .none :=
  (fnC_in X (cd := ((fdIn (hd.heap_39 p) 45).getD default).code) (pm := ((fdIn (hd.heap_39 p) 45).getD default).pyModule) (doc := ((fdIn (hd.heap_39 p) 45).getD default).doc) (an := ((fdIn (hd.heap_39 p) 45).getD default).annotations) (ct := ((fdIn (hd.heap_39 p) 45).getD default).closureTuple) (by kernel_rfl) (by kernel_rfl)).d
theorem fC_ok (X : (hd.heap_39 p).In h) : FnD h 52 "compare" "TupleComp.compare" (methAt 1) .none .none :=
  (fnC_in X (cd := ((fdIn (hd.heap_39 p) 52).getD default).code) (pm := ((fdIn (hd.heap_39 p) 52).getD default).pyModule) (doc := ((fdIn (hd.heap_39 p) 52).getD default).doc) (an := ((fdIn (hd.heap_39 p) 52).getD default).annotations) (ct := ((fdIn (hd.heap_39 p) 52).getD default).closureTuple) (by kernel_rfl) (by kernel_rfl)).d
theorem dfl_ok {T D tk tk2 : Nat} (X : (hd.heap_39 p).In h) (e1 : (hd.heap_39 p).lookup T = some ⟨.type "tuple", none, .seq #[.int 0 tk, .none] 0, #[]⟩) (e2 : (hd.heap_39 p).lookup D = some ⟨.type "dict", none, .dict #[⟨PyData.keyHash p (Str.ofString "key"), .str (Str.ofString "key") tk2, .none⟩] 1, #[]⟩) : Dfl h (.ref T) (.ref D) := by
  obtain ⟨md, h1, h2⟩ := ns_one X e2
  exact ⟨T, D, _, tk, 0, md, rfl, X _ _ e1, rfl, rfl, h1, h2⟩
theorem bindBL_ok : BindBL (hd.heap_39 p) (.ref 92) (.ref 93) 384 := by
  intro s' a x t doc pm an cd ct X
  intro M A Q E hq
  exact (Looks.of_peek (M := M) X (by kernel_rfl) : Looks M s'.heap _ _).here hq
theorem q_ok (X : (hd.heap_39 p).In h) (G : h.Ns mainGlobals mg) : QEnv mg h 105 110 where
  p1 := mg_of X G (by kernel_rfl)
  p2 := mg_of X G (by kernel_rfl)
  cr := ⟨458, mg_of X G (by kernel_rfl)⟩
  i1 := ⟨#[.str (Str.ofString "(?m)^\\.") 401, .int 40 414, .int 0 0, .none, .none, .ref 104, .int 0 0], 104, (code1.map fun (k : Nat) => Value.int k 0), 0, X _ _ (by kernel_rfl), rfl, by decide +kernel, by decide +kernel, X _ _ (by kernel_rfl), by decide +kernel⟩
  i2 := ⟨#[.str (Str.ofString "(?:\\r\\n|\\n|\\r(?!\\n))") 417, .int 32 456, .int 0 0, .none, .none, .ref 109, .int 0 0], 109, (code2.map fun (k : Nat) => Value.int k 0), 0, X _ _ (by kernel_rfl), rfl, by decide +kernel, by decide +kernel, X _ _ (by kernel_rfl), by decide +kernel⟩
theorem kc_ok : Kc (hd.heap_39 p) 55 45 52 := ⟨by kernel_rfl, by kernel_rfl, by kernel_rfl, by kernel_rfl, by kernel_rfl, by kernel_rfl, by kernel_rfl, by kernel_rfl, by kernel_rfl, by kernel_rfl, by kernel_rfl⟩
theorem le_ok {vw : Program} {loose : List Str} {mean : ExcName → Option Value} (X : (hd.heap_39 p).In h) (T : Top vw loose mean mg mb h) (hfree : ∀ x ∈ (["sum", "range", "len", "sorted", "max", "min", "isinstance", "tuple"] : List String), mg (Str.ofString x) = none)
    (kL : CodeHd h 144 140) (kC : CodeHd h 151 147) (kW : CodeHd h 185 183) : LE la (hd.heap_39 p) vw loose mean mg mb h where
  GL := ⟨T.g, ⟨mb, T.b, T.builtins⟩, T.nolimit⟩
  T := T
  X := X
  Y := kc_ok
  keep := by kernel_rfl
  hI := fI_ok X
  hC := fC_ok X
  gC := mg_of X T.g (by kernel_rfl)
  gCalls := mg_of X T.g (by kernel_rfl)
  gFolded := mg_of X T.g (by kernel_rfl)
  gMail := mg_of X T.g (by kernel_rfl)
  gQuote := mg_of X T.g (by kernel_rfl)
  gLine := mg_of X T.g (by kernel_rfl)
  gCallers := mg_of X T.g (by kernel_rfl)
  gProfile := mg_of X T.g (by kernel_rfl)
  gWaits := mg_of X T.g (by kernel_rfl)
  gTold := mg_of X T.g (by kernel_rfl)
  gRead := mg_of X T.g (by kernel_rfl)
  gStops := mg_of X T.g (by kernel_rfl)
  gAfs := mg_of X T.g (by kernel_rfl)
  gAc := mg_of X T.g (by kernel_rfl)
  gIns := mg_of X T.g (by kernel_rfl)
  gBr := mg_of X T.g (by kernel_rfl)
  gBl := mg_of X T.g (by kernel_rfl)
  hFolded := fFolded_ok X
  hCalls := fCalls_ok X
  hMail := fMail_ok X
  hProfile := fProfile_ok X
  hTold := fTold_ok X
  hLine := fLine_ok X
  hCallers := fCallers_ok X
  hWaits := fWaits_ok X
  hRead := fRead_ok X
  hStops := fStops_ok X
  hQuote := fQuote_ok X
  hAfs := fAfs_ok X
  hAc := fAc_ok X
  hIns := fIns_ok X
  hBr := fBr_ok X
  hBl := fBl_ok X
  bSum := hfree "sum" (by decide)
  bRange := hfree "range" (by decide)
  bLen := hfree "len" (by decide)
  bSorted := hfree "sorted" (by decide)
  bMax := hfree "max" (by decide)
  bMin := hfree "min" (by decide)
  bIs := hfree "isinstance" (by decide)
  bTuple := hfree "tuple" (by decide)
  dIns := dfl_ok (tk := 357) (tk2 := 358) X (by kernel_rfl) (by kernel_rfl)
  dBr := dfl_ok (tk := 370) (tk2 := 371) X (by kernel_rfl) (by kernel_rfl)
  dBl := dfl_ok (tk := 384) (tk2 := 385) X (by kernel_rfl) (by kernel_rfl)
  bBl := bindBL_ok
  Q := q_ok X T.g
  kL := kL
  kC := kC
  kW := kW
end
end Mine
end
section
open PySem PySem.W PyProof.Rows PySem.Calls
set_option maxRecDepth 100000
set_option maxHeartbeats 4000000
namespace Mine
theorem law_all {w : World} {A : Around} {s : Shared} {B : Bs} {L f sc : Addr} {m mg mb : Str → Option Value} {K : Frag} {vw : Program} {loose : List Str} {mean : ExcName → Option Value} {a : La} {vs : List Value} {ns : List Int} {o1 o2 o3 o4 o5 : Obj} {Q : Flow → Shared → Prop}
    (Z : LE a K vw loose mean mg mb B.h) (hA : Rm A 20)
    (S : St B L m (led L a.PC a.PL a.PW o5 o4 o3 o2 o1 #[] #[] #[] []) s) (h5 : o5.data = .cell none) (h4 : o4.data = .cell none) (h3 : o3.data = .cell none) (h2 : o2.data = .cell none) (h1 : o1.data = .cell none)
    (hm : m "script" = some (.ref sc)) (hsc : B.h.IsList sc vs.toArray) (hi : IntsAre vs ns) (hlen : vs.length ≤ 63)
    (h : ∀ m' ow oc od owt os pc pl pw r s', St B L m' (led L a.PC a.PL a.PW ow oc od owt os pc pl pw r) s' → Q (.ret (.bool true)) s') :
    wpAny (model prog w) A (execs (defAt 25).2.1 (envX "law" (defAt 25).2.2 L f (.ref a.cW) (cellsFrom (L + 1) (defAt 25).2.2.names []))) Q (fun _ _ => False) s := by
  refine law_spec Z hA S h5 h4 h3 h2 h1 hm hsc hi hlen (fun ds d way hr hl hw => plain hr hl hw) ?_
  intro s m r pl pw cl us n1 rl rvs n2 x ll lus n4 D ovs n5 ow oc way tw ds d S how hoc m1 m2 m3 m4 hcl hds hrl hrows hx hll hline hD hord hrun hl7 hway
  exact law2 Z hA S how hoc h3 h2 h1 m1 m2 m3 m4 hcl hds hrl hrows hx hll hline hD hord hrun hl7 hway (plain hrun hl7 hway) h
theorem nd8 (L : Nat) (l1 : 147 < L) (l2 : 140 < L) (l3 : 183 < L) : [L + 5, L + 4, L + 3, L + 2, L + 1, 147, 140, 183].Nodup := by
  simp
  (first | lia | omega)
theorem rm_top (env : Env) : Rm (callerA.deeper env) 20 := ⟨rfl, by show 1 + claimMargin + 1 + 20 < recursionLimit; decide +kernel, by show 4 + 3 + 4 * 20 < cLine; decide +kernel⟩
abbrev tabs : List (Addr × Addr) := [(151, 147), (144, 140), (185, 183)]
theorem join {w : World} {s₁ : Shared} {g h₁ : Heap} {tk : Nat} {L fa sc : Addr} {m mg mb : Str → Option Value} {vw : Program} {loose : List Str} {mean : ExcName → Option Value} {vs : List Value} {ns : List Int} {args : List WData} {cl : Str → Option Addr} {mean' : ExcName → Option Value} {o1 o2 o3 o4 o5 : Obj} {E : Value → Shared → Prop}
    (X : (hd.heap_39 w.params).In g) (T : Top vw loose mean mg mb g) (hfree : ∀ x ∈ ["sum", "range", "len", "sorted", "max", "min", "isinstance", "tuple"], mg (Str.ofString x) = none)
    (kC : CodeHd g 151 147) (kL : CodeHd g 144 140) (kW : CodeHd g 185 183)
    (F : Fr g L h₁ m) (N : News g L h₁ [(L + 1 + 1 + 1 + 1 + 1, o5), (L + 1 + 1 + 1 + 1, o4), (L + 1 + 1 + 1, o3), (L + 1 + 1, o2), (L + 1, o1), (147, tabObj #[]), (140, tabObj #[]), (183, tabObj #[])])
    (l0 : 147 < L ∧ 140 < L ∧ 183 < L) (h5 : o5.data = .cell none) (h4 : o4.data = .cell none) (h3 : o3.data = .cell none) (h2 : o2.data = .cell none) (h1 : o1.data = .cell none)
    (hm : m "script" = some (.ref sc)) (hsc : g.IsList sc vs.toArray) (hi : IntsAre vs ns) (hlen : ¬ ((63 : Nat) : Int) < (ns.length : Int)) (hg : s₁.gens = #[]) :
    wpAny (model PySem.Challenge.rw_re0064_01.row.prog w) (callerA.deeper (envOfC "law" (defAt 25).2.2 L fa (.ref 185))) (execs (defAt 25).2.1 (envOfC "law" (defAt 25).2.2 L fa (.ref 185)))
      (fun f s' => GoodW PySem.Challenge.rw_re0064_01.row.claim cl mean' args { heap := g, gens := s₁.gens, drawn := s₁.drawn, toks := s₁.toks, os := s₁.os } (.ok (.ret (match f with | .ret v => v | _ => .none))) s' ∧ GrownAll [(151, 147), (144, 140), (185, 183)] s'.heap)
      E { heap := h₁, gens := s₁.gens, drawn := s₁.drawn, toks := tk, os := s₁.os } := by
  have Z := le_ok X T hfree kL kC kW
  have hvl := hi.sizeZ
  rw [List.size_toArray] at hvl
  refine wpAny_mono (law_all (B := ⟨g, s₁.gens, s₁.os⟩) (a := la) (f := fa) Z (rm_top _) (s := { heap := h₁, gens := s₁.gens, drawn := s₁.drawn, toks := tk, os := s₁.os }) ⟨F, N, ?_, rfl, rfl⟩ h5 h4 h3 h2 h1 hm hsc hi (by (first | lia | omega))
    (Q := fun f s' => GoodW PySem.Challenge.rw_re0064_01.row.claim cl mean' args { heap := g, gens := s₁.gens, drawn := s₁.drawn, toks := s₁.toks, os := s₁.os } (.ok (.ret (match f with | .ret v => v | _ => .none))) s' ∧ GrownAll [(151, 147), (144, 140), (185, 183)] s'.heap) ?_) (fun _ _ x => x) (fun _ _ x => x.elim)
  · obtain ⟨l1, l2, l3⟩ := l0
    exact nd8 L l1 l2 l3
  · intro m' ow oc od owt os pc pl pw r s' S
    refine ⟨goodW_bool S.F (S.G.trans hg) (fun _ => rfl) (by wrow_post) S.O, ⟨pc, ?_⟩, ⟨pl, ?_⟩, ⟨pw, ?_⟩, trivial⟩
    · exact S.get (.tail _ (.tail _ (.tail _ (.tail _ (.tail _ (.head _))))))
    · exact S.get (.tail _ (.tail _ (.tail _ (.tail _ (.tail _ (.tail _ (.head _)))))))
    · exact S.get (.tail _ (.tail _ (.tail _ (.tail _ (.tail _ (.tail _ (.tail _ (.head _))))))))
end Mine
end
section
open PySem PySem.W PyProof.Rows PySem.Calls
set_option Elab.async false
set_option maxRecDepth 100000
set_option maxHeartbeats 8000000
namespace Mine
theorem free8 {mean : ExcName → Option Value} {mg mb : Str → Option Value} {h : Heap} (T : Top hd.view_39 (looseW hd.view_39 [Str.ofString "insort_right", Str.ofString "bisect_right", Str.ofString "bisect_left", Str.ofString "_twin_re_1", Str.ofString "_twin_re_2"]) mean mg mb h) :
    ∀ x ∈ ["sum", "range", "len", "sorted", "max", "min", "isinstance", "tuple"], mg (Str.ofString x) = none := by
  have ck : ∀ x ∈ ["sum", "range", "len", "sorted", "max", "min", "isinstance", "tuple"], Str.ofString x ∉ startupNames ∧ Str.ofString x ∉ looseW hd.view_39 [Str.ofString "insort_right", Str.ofString "bisect_right", Str.ofString "bisect_left", Str.ofString "_twin_re_1", Str.ofString "_twin_re_2"] ∧
      Str.ofString x ∉ (recsOf hd.view_39).map (·.name) ∧ Str.ofString x ∉ (litsOf hd.view_39).map (·.1) ∧ Str.ofString x ∉ (clssOf hd.view_39 (looseW hd.view_39 [Str.ofString "insort_right", Str.ofString "bisect_right", Str.ofString "bisect_left", Str.ofString "_twin_re_1", Str.ofString "_twin_re_2"])).map (·.name) := by decide +kernel
  intro x hx
  obtain ⟨c1, c2, c3, c4, c5⟩ := ck x hx
  exact T.free _ c1 c2 c3 c4 c5
end Mine
end
set_option maxHeartbeats 8000000 in
theorem PySem.Challenge.cw_re0064_01_holds : PySem.Challenge.rw_re0064_01.Holds :=
  Mine.hd (by
    k_go0
    refine Mine.join (by assumption) (by assumption) (Mine.free8 (by assumption)) (by assumption) (by assumption) (by assumption) (by assumption) (by assumption) (by assumption) (by assumption) (by assumption) (by assumption) (by assumption) (by assumption) (by rfl) (by assumption) (by assumption) (by assumption) (by assumption))
