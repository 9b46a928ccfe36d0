import PyProof.Rows.All
import Wide.All
import OpenK.AllK
import Wide.FinOn
import PySem.Builtin.Sre.Common
import KE.KSuper
import OpenK.KMake
import PyProof.ListNew
import OpenK.KWalk
import PyProof.SumAny
import PyProof.GenCompT
import KE.KNestM
import PyProof.JoinWalk
import PyProof.Rows.StrJoin2
import KE.KCallOwn
import PyProof.DictDisplay
import KE.KEqDict
import KE.KSortTup
import KE.KLam
import PyProof.Rows.StrClip
import PyProof.StrLawsIdx
import Lean
import PySem.Challenge.RW_xh0012_01
set_option Elab.async false
set_option genSizeOf false
set_option compiler.extract_closed false
set_option linter.all false
set_option genInjectivity false
local macro_rules | `(tactic| omega) => `(tactic| first | lia -abstractProof | omega +splitDisjunctions)

section
open PySem PySem.W PyProof.Rows
set_option Elab.async false
set_option maxRecDepth 100000
namespace Mine
set_option genSizeOf false
set_option genInjectivity false
set_option tactic.hygienic false
section
local macro_rules | `(tactic| o_head $_) => `(tactic| assumption)
set_option maxHeartbeats 8000000 in
theorem hfr (h : PySem.Challenge.rw_xh0012_01.row.Holds) : PySem.Challenge.rw_xh0012_01.row.Holds := by
  w_on
  k_head
end
end Mine
end
section
open PySem PySem.W PyProof.Rows
set_option maxRecDepth 100000
namespace Mine
set_option genSizeOf false
set_option genInjectivity false
set_option tactic.hygienic false

def tq (k : Lean.SyntaxNodeKind) (a : Array Lean.Syntax) : Lean.Syntax := .node .none k a
def ta (s : String) : Lean.Syntax := .atom .none s
def tseq (a : Array Lean.Syntax) : Lean.Syntax := tq ``Lean.Parser.Tactic.tacticSeq #[tq ``Lean.Parser.Tactic.tacticSeq1Indented #[tq `null a]]
def tRfl : Lean.Syntax := tq ``Lean.Parser.Tactic.tacticRfl #[ta "rfl"]
def tUnf : Lean.Syntax := tq ``Lean.Parser.Tactic.withUnfoldingAll #[ta "with_unfolding_all", tseq #[tRfl]]
def tIntros : Lean.Syntax := tq ``Lean.Parser.Tactic.intros #[ta "intros", tq `null #[]]
def tacR : Lean.Syntax := tseq #[tRfl]
def tacD : Lean.Syntax := tseq #[tq ``Lean.Parser.Tactic.decide #[ta "decide", tq ``Lean.Parser.Tactic.optConfig #[tq `null #[]]]]
def tacI : Lean.Syntax := tseq #[tIntros, ta ";", tRfl]
def tacU : Lean.Syntax := tseq #[tUnf]
def tacW : Lean.Syntax := tseq #[tIntros, ta ";", tUnf]
def tacN : Lean.Syntax := tseq #[tq ``Lean.Parser.Tactic.exact #[ta "exact", Lean.mkIdent `Mine.al0]]

theorem al0 {α : Type} {P : α → Prop} : ∀ p ∈ ([] : List α), P p := fun p h => absurd h List.not_mem_nil
theorem al {α : Type} {P : α → Prop} {r : List α} {q : α} (h : P q) (t : ∀ p ∈ r, P p) : ∀ p ∈ q :: r, P p := fun p hp => (List.mem_cons.mp hp).elim (fun e => e ▸ h) (t p)

theorem inF {α : Type} {l : List α} (i : Nat) {f : α} (h : l[i]? = some f) : f ∈ l := List.mem_of_getElem? h
theorem mem1 {α : Type} {a b : α} (h : a ∈ [b]) : a = b := List.mem_singleton.mp h
theorem mem2 {α : Type} {a b c : α} (h : a ∈ [b, c]) : a = b ∨ a = c := (List.mem_cons.mp h).imp id mem1
theorem nsome {α : Type} {x : α} {C : Prop} (h : none = some x) : C := nomatch h

noncomputable abbrev PR : Program := PySem.Challenge.pw_xh0012_01
noncomputable def AL (n : Nat) : Around := { handled := none, depth := 320 + 20 * n, frames := none, guards := none, units := 200 + 200 * n }

theorem wp_weak {α : Type} {M : Model} {A A' : Around} {t : Sem α} {Q : α → Shared → Prop} {E : Value → Shared → Prop} {s : Shared}
    (hh : A.handled = A'.handled) (hd : A.depth ≤ A'.depth) (hu : A.units ≤ A'.units) (hf : A'.frames = none) (hg : A'.guards = none)
    (h : wpAny M A' t Q E s) : wpAny M A t Q E s := fun Γ p hΓ => by
  refine h Γ p ⟨hΓ.1.trans hh, Nat.le_trans hΓ.2.1 hd, ?_, ?_, Nat.le_trans hΓ.2.2.2.2 hu⟩
  · intro l hl; rw [hf] at hl; cases hl
  · intro l hl; rw [hg] at hl; cases hl
theorem code_weak {M : Model} {A A' : Around} {c : Code} {R : Result → Shared → Prop} {s : Shared}
    (hh : A.handled = A'.handled) (hd : A.depth ≤ A'.depth) (hu : A.units ≤ A'.units) (hf : A'.frames = none) (hg : A'.guards = none)
    (h : codeAny M A' c R s) : codeAny M A c R s := fun Γ p hc hΓ => by
  refine h Γ p hc ⟨hΓ.1.trans hh, Nat.le_trans hΓ.2.1 hd, ?_, ?_, Nat.le_trans hΓ.2.2.2.2 hu⟩
  · intro l hl; rw [hf] at hl; cases hl
  · intro l hl; rw [hg] at hl; cases hl

noncomputable def tabs : List Addr := [79, 86]
noncomputable def tabO (vs : Array Value) : Obj := { cls := .none, data := .fields vs }
structure Trip where
  vs : Array Value
  ok : TriplesOk vs.toList
theorem triples_app : ∀ (a b : List Value), TriplesOk a → TriplesOk b → TriplesOk (a ++ b) := fun a b ha hb => by
  fun_induction TriplesOk a with
  | case1 => exact hb
  | case2 a' t b' u x rest ih => simp only [List.cons_append, TriplesOk]; exact ih ha
  | case3 l h1 h2 => exact ha.elim
noncomputable abbrev Trip.app (a b : Trip) : Trip := ⟨a.vs ++ b.vs, by rw [Array.toList_append]; exact triples_app _ _ a.ok b.ok⟩
noncomputable def Keep (h h' : Heap) : Prop := ∀ b o, h.get? b = some o → h'.get? b = some o ∨ (b ∈ tabs ∧ ∃ (ps : Array Value) (more : Trip), o = tabO ps ∧ h'.get? b = some (tabO (ps ++ more.vs)))
theorem Keep.refl (h : Heap) : Keep h h := fun uu uu e => .inl e
theorem Keep.full {h h' : Heap} (k : ∀ b o, h.get? b = some o → h'.get? b = some o) : Keep h h' := fun b o e => .inl (k b o e)
theorem Keep.trans {h h' h'' : Heap} (x : Keep h h') (y : Keep h' h'') : Keep h h'' := fun b o e => by
  rcases x b o e with a | ⟨hb, ps, more, rfl, a⟩
  · exact y b o a
  · rcases y b _ a with a' | ⟨_, ps', more', e', a'⟩
    · exact .inr ⟨hb, ps, more, rfl, a'⟩
    · refine .inr ⟨hb, ps, more.app more', rfl, ?_⟩
      have : ps' = ps ++ more.vs := by
        have := congrArg Obj.data e'
        injection this with this
        exact this.symm
      rw [a', this, Array.append_assoc]
theorem Keep.get {h h' : Heap} (x : Keep h h') {b : Addr} {o : Obj} (e : h.get? b = some o) (hc : o.cls ≠ .none) : h'.get? b = some o := by
  rcases x b o e with a | ⟨_, ps, more, rfl, _⟩
  · exact a
  · exact absurd rfl hc
theorem Keep.getN {h h' : Heap} (x : Keep h h') {b : Addr} {o : Obj} (e : h.get? b = some o) (hb : b ∉ tabs) : h'.get? b = some o := by
  rcases x b o e with a | ⟨h1, _⟩
  · exact a
  · exact absurd h1 hb
theorem Keep.there {h h' : Heap} (x : Keep h h') {b : Addr} (e : (h.get? b).isSome = true) : (h'.get? b).isSome = true := by
  obtain ⟨o, ho⟩ := Option.isSome_iff_exists.mp e
  rcases x b o ho with a | ⟨_, _, _, _, a⟩ <;> rw [a] <;> rfl
theorem Keep.push (h : Heap) (o : Obj) : Keep h (h.push o) := Keep.full fun uu uu e => Heap.get?_push_of_some _ e

inductive D where
  | none
  | bool (b : Bool)
  | int (i : Int)
  | str (x : Str)
  | tup (l : List D)
  | lst (l : List D)
  | dct (l : List (Int × Int))
  | cmp (l : List (Int × Int))
  | acc (l : List D) (i : Int)
  | val (v : Value)

noncomputable def prD (p : Int × Int) : D := .tup [.int p.1, .int p.2]

noncomputable abbrev lstO (vs : Array Value) (n : Nat) : Obj := { cls := .type "list", dict := none, data := .seq vs n, slots := #[] }
noncomputable abbrev tupO (vs : Array Value) (n : Nat) : Obj := { cls := .type "tuple", dict := none, data := .seq vs n, slots := #[] }
noncomputable def IsL (h : Heap) (a : Addr) (vs : Array Value) : Prop := ∃ n, h.get? a = some (lstO vs n)
noncomputable def IsT (h : Heap) (a : Addr) (vs : Array Value) : Prop := ∃ n, h.get? a = some (tupO vs n)
theorem IsL.is {h : Heap} {a : Addr} {vs : Array Value} (x : IsL h a vs) : h.IsList a vs := let ⟨n, e⟩ := x; ⟨_, e, rfl, n, rfl⟩
theorem IsT.is {h : Heap} {a : Addr} {vs : Array Value} (x : IsT h a vs) : h.IsTuple a vs := let ⟨n, e⟩ := x; ⟨_, e, rfl, n, rfl⟩
noncomputable def IsInst (h : Heap) (a C dx : Addr) : Prop := h.get? a = some { cls := .ref C, dict := some dx, data := .plain }


noncomputable def CmpL (h : Heap) (X : Addr → Prop) : List (Int × Int) → List Value → Prop
  | [], vs => vs = []
  | p :: ds, vs => ∃ a r t t', vs = .ref a :: r ∧ ¬ X a ∧ IsT h a #[.int p.1 t, .int p.2 t'] ∧ CmpL h X ds r
noncomputable def DctL : List (Int × Int) → List DictEntry → Prop
  | [], vs => vs = []
  | p :: ds, vs => ∃ e r t t', vs = e :: r ∧ e.key = .int p.1 t ∧ e.hash = hashInt p.1 ∧ e.val = .int p.2 t' ∧ DctL ds r
noncomputable def Dct (h : Heap) (a : Addr) (es : List (Int × Int)) : Prop := @LT.lt Nat _ 256 a ∧ ∃ l o n, h.get? a = some o ∧ o.ExactDict ∧ o.data = .dict l n ∧ DctL es l.toList ∧ (es.map (·.1)).Nodup
noncomputable def CmpAt (h : Heap) (X : Addr → Prop) (es : List (Int × Int)) (a : Addr) : Prop := ∃ dx l vs od, ¬ X a ∧ ¬ X dx ∧ ¬ X l ∧ IsInst h a 152 dx ∧ h.get? dx = some od ∧ od.cls = .type "dict" ∧ lookIn "comp_select_list" od = some (some (.ref l)) ∧ lookIn "compare" od = some none ∧ IsL h l vs ∧ CmpL h X es vs.toList
noncomputable def DctAt (h : Heap) (X : Addr → Prop) (es : List (Int × Int)) (a : Addr) : Prop := ¬ X a ∧ Dct h a es
noncomputable abbrev accO (dx : Addr) (vs : Array Value) (n : Nat) : Obj := { cls := .ref 117, dict := some dx, data := .seq vs n, slots := #[] }
inductive AccRaw (h : Heap) (a dx : Addr) (vs : Array Value) (i0 : Int) : Prop
  | mk (h1 : @LT.lt Nat _ 256 a) (h2 : @LT.lt Nat _ 256 dx) (h3 : ∃ n, h.get? a = some (accO dx vs n)) (od : Obj) (t : Tok) (h4 : h.get? dx = some od) (h5 : od.cls = .type "dict") (h6 : lookIn "_initial_size" od = some (some (.int i0 t)) ∧ ∀ x : Str, x ≠ "_initial_size" → lookIn x od = some none) : AccRaw h a dx vs i0
mutual
noncomputable def Tr (h : Heap) (X : Addr → Prop) : D → Value → Prop
  | .none, v => v = .none
  | .bool b, v => v = .bool b
  | .int i, v => ∃ t, v = .int i t
  | .str x, v => ∃ t, v = .str x t
  | .tup ds, v => ∃ a vs, v = .ref a ∧ ¬ X a ∧ IsT h a vs ∧ TrL h X ds vs.toList
  | .lst ds, v => ∃ a vs, v = .ref a ∧ ¬ X a ∧ IsL h a vs ∧ TrL h X ds vs.toList
  | .dct es, v => ∃ a, v = .ref a ∧ DctAt h X es a
  | .cmp es, v => ∃ a, v = .ref a ∧ CmpAt h X es a
  | .acc ds i0, v => ∃ a dx vs, v = .ref a ∧ ¬ X a ∧ ¬ X dx ∧ AccRaw h a dx vs i0 ∧ TrL h X ds vs.toList
  | .val u, v => v = u
noncomputable def TrL (h : Heap) (X : Addr → Prop) : List D → List Value → Prop
  | [], vs => vs = []
  | d :: ds, vs => ∃ v r, vs = v :: r ∧ Tr h X d v ∧ TrL h X ds r
end

theorem tuple_obj {h h' : Heap} {a : Addr} {vs : Array Value} (x : IsT h a vs) (k : ∀ o, h.get? a = some o → o.cls ≠ .none → h'.get? a = some o) : IsT h' a vs :=
  let ⟨n, e⟩ := x; ⟨n, k _ e (by intro e; cases e)⟩
theorem list_obj {h h' : Heap} {a : Addr} {vs : Array Value} (x : IsL h a vs) (k : ∀ o, h.get? a = some o → o.cls ≠ .none → h'.get? a = some o) : IsL h' a vs :=
  let ⟨n, e⟩ := x; ⟨n, k _ e (by intro e; cases e)⟩

section
variable {h h' : Heap} {X X' : Addr → Prop}
structure Mv (h h' : Heap) (X X' : Addr → Prop) : Prop where
  get : ∀ a o, ¬ X a → h.get? a = some o → o.cls ≠ .none → h'.get? a = some o
  open_ : ∀ a, ¬ X a → (h.get? a).isSome = true → ¬ X' a
theorem tuple_some {a : Addr} {vs : Array Value} (x : IsT h a vs) : (h.get? a).isSome = true := let ⟨n, ho⟩ := x; by rw [ho]; rfl
theorem list_some {a : Addr} {vs : Array Value} (x : IsL h a vs) : (h.get? a).isSome = true := let ⟨n, ho⟩ := x; by rw [ho]; rfl
theorem CmpL.mv (k : Mv h h' X X') : ∀ {es : List (Int × Int)} {vs : List Value}, CmpL h X es vs → CmpL h' X' es vs
  | [], u1, x => x
  | p :: ds, vs, x => by
    obtain ⟨a, r, t, t', e, h1, h2, h3⟩ := x
    exact ⟨a, r, t, t', e, k.open_ a h1 (tuple_some h2), tuple_obj h2 (k.get a · h1), h3.mv k⟩
theorem CmpAt.mv (k : Mv h h' X X') {es : List (Int × Int)} {a : Addr} (x : CmpAt h X es a) : CmpAt h' X' es a := by
  obtain ⟨dx, l, vs, od, h1, h2, h3, h4, h5, h6, h7, h8, h9, h10⟩ := x
  exact ⟨dx, l, vs, od, k.open_ a h1 (by rw [h4]; rfl), k.open_ dx h2 (by rw [h5]; rfl), k.open_ l h3 (list_some h9), k.get a _ h1 h4 (by intro e; cases e), k.get dx od h2 h5 (by rw [h6]; intro e; cases e), h6, h7, h8, list_obj h9 (k.get l · h3), h10.mv k⟩
theorem DctAt.mv (k : Mv h h' X X') {es : List (Int × Int)} {a : Addr} (x : DctAt h X es a) : DctAt h' X' es a := by
  obtain ⟨h1, hf, l, o, n, h2, h3, h4, h5⟩ := x
  exact ⟨k.open_ a h1 (by rw [h2]; rfl), hf, l, o, n, k.get a o h1 h2 (by rw [h3.1]; intro e; cases e), h3, h4, h5⟩
theorem AccRaw.keep {a dx : Addr} {vs : Array Value} {i0 : Int} (x : AccRaw h a dx vs i0) (k1 : ∀ o, h.get? a = some o → o.cls ≠ .none → h'.get? a = some o) (k2 : ∀ o, h.get? dx = some o → o.cls ≠ .none → h'.get? dx = some o) : AccRaw h' a dx vs i0 := by
  obtain ⟨f1, f2, ⟨n, h1⟩, od, t, h2, h3, h4⟩ := x
  exact ⟨f1, f2, ⟨n, k1 _ h1 (by intro e; cases e)⟩, od, t, k2 _ h2 (by rw [h3]; intro e; cases e), h3, h4⟩
theorem AccRaw.ex {a dx : Addr} {vs : Array Value} {i0 : Int} (x : AccRaw h a dx vs i0) : (h.get? a).isSome = true ∧ (h.get? dx).isSome = true := by
  obtain ⟨_, _, ⟨n, h1⟩, od, t, h2, _⟩ := x
  exact ⟨by rw [h1]; rfl, by rw [h2]; rfl⟩
mutual
theorem Tr.mv (k : Mv h h' X X') : ∀ (d : D) (v : Value), Tr h X d v → Tr h' X' d v
  | .none, u1, x => x
  | .bool u1, u2, x => x
  | .int u1, u2, x => x
  | .str u1, u2, x => x
  | .val u1, u2, x => x
  | .tup ds, v, x => by
    obtain ⟨a, vs, e, h1, h2, h3⟩ := x
    exact ⟨a, vs, e, k.open_ a h1 (tuple_some h2), tuple_obj h2 (k.get a · h1), TrL.mv k ds _ h3⟩
  | .lst ds, v, x => by
    obtain ⟨a, vs, e, h1, h2, h3⟩ := x
    exact ⟨a, vs, e, k.open_ a h1 (list_some h2), list_obj h2 (k.get a · h1), TrL.mv k ds _ h3⟩
  | .dct es, v, x => let ⟨a, e, y⟩ := x; ⟨a, e, y.mv k⟩
  | .cmp es, v, x => let ⟨a, e, y⟩ := x; ⟨a, e, y.mv k⟩
  | .acc ds i0, v, x => by
    obtain ⟨a, dx, vs, e, h1, h2, h3, h4⟩ := x
    exact ⟨a, dx, vs, e, k.open_ a h1 h3.ex.1, k.open_ dx h2 h3.ex.2, h3.keep (k.get a · h1) (k.get dx · h2), TrL.mv k ds _ h4⟩
theorem TrL.mv (k : Mv h h' X X') : ∀ (ds : List D) (vs : List Value), TrL h X ds vs → TrL h' X' ds vs
  | [], u1, x => x
  | d :: ds, vs, x => by
    obtain ⟨v, r, e, h1, h2⟩ := x
    exact ⟨v, r, e, Tr.mv k d v h1, TrL.mv k ds r h2⟩
end
theorem Mv.keep (k : Keep h h') : Mv h h' X X := ⟨fun uu uu uu e c => k.get e c, fun uu n uu => n⟩
theorem Mv.less (k : ∀ a, X' a → X a) : Mv h h X X' := ⟨fun uu uu uu e uu => e, fun a n uu q => n (k a q)⟩
theorem Mv.same {a : Addr} (hs : Heap.SameBut a h h') (ha : X a) : Mv h h' X X := ⟨fun b o n e uu => (hs.2 b fun q => n (q ▸ ha)).trans e, fun uu n uu => n⟩
end

structure Cx where
  w : World
  K : Frag
  mg : Str → Option Value
  mb : Str → Option Value

noncomputable def stOf (i : Nat) : Stmt := (PR.main.body[i]?).getD (.Pass default)
noncomputable def inCls (st : Stmt) (i : Nat) : Stmt := match st with
  | .ClassDef _ _ _ body _ _ _ _ _ _ _ => (body[i]?).getD (.Pass default)
  | _ => .Pass default
noncomputable def prmOf : Stmt → Arguments
  | .FunctionDef _ a _ _ _ _ _ _ _ _ => a
  | _ => ⟨[], [], none, [], [], none, []⟩
noncomputable def bodyOf : Stmt → List Stmt
  | .FunctionDef _ _ b _ _ _ _ _ _ _ => b
  | _ => []
noncomputable def scOf : Stmt → Scope
  | .FunctionDef _ _ _ _ _ _ sc _ _ _ => sc
  | _ => default
structure FnRec where
  a : Addr
  cd : Addr
  nm : Str
  q : Str
  st : Stmt
  cl : List (Str × Addr)
  dV : Value
noncomputable def FnRec.data (f : FnRec) (kV doc pm : Value) (an : Option Addr) (ct : Value) : FuncData := fnX f.nm f.q (prmOf f.st) (bodyOf f.st) (scOf f.st) f.cl f.dV kV doc pm an (.ref f.cd) ct
noncomputable def FnRec.env (f : FnRec) (L : Addr) (cells : List (Str × Addr)) : Env := envX f.q (scOf f.st) L f.a (.ref f.cd) cells
inductive FnAt (h : Heap) (f : FnRec) : Prop
  | mk (o : Obj) (kV doc pm : Value) (an : Option Addr) (ct : Value) (h1 : h.get? f.a = some o) (h2 : o.cls = .type "function") (h3 : o.data = .func (f.data kV doc pm an ct)) (oc : Obj) (vs : Array Value) (t : Tok) (h4 : h.get? f.cd = some oc) (h5 : oc.cls = .type "code") (h6 : oc.data = .fields vs ∧ vs[1]? = some (.str f.q t)) : FnAt h f
theorem FnAt.keep {h h' : Heap} {f : FnRec} (x : FnAt h f) (k : Keep h h') : FnAt h' f := by
  obtain ⟨o, kV, doc, pm, an, ct, h1, h2, h3, oc, vs, t, h4, h5, h6⟩ := x
  exact ⟨o, kV, doc, pm, an, ct, k.get h1 (by rw [h2]; intro e; cases e), h2, h3, oc, vs, t, k.get h4 (by rw [h5]; intro e; cases e), h5, h6⟩

noncomputable def R_init : FnRec := ⟨55, 54, "__init__", "_Accumulator.__init__", inCls (stOf 4) 0, [("__class__", 42)], .ref 47⟩
noncomputable def R_push : FnRec := ⟨62, 61, "push", "_Accumulator.push", inCls (stOf 4) 1, [], .none⟩
noncomputable def R_pop_from : FnRec := ⟨70, 69, "pop_from", "_Accumulator.pop_from", inCls (stOf 4) 2, [], .ref 63⟩
noncomputable def R_len : FnRec := ⟨84, 83, "__len__", "_Accumulator.__len__", inCls (stOf 4) 4, [], .none⟩
noncomputable def R_str : FnRec := ⟨91, 90, "__str__", "_Accumulator.__str__", inCls (stOf 4) 5, [], .none⟩
noncomputable def R_part : FnRec := ⟨114, 113, "part_count", "_Accumulator.part_count", inCls (stOf 4) 8, [("__class__", 42)], .none⟩
noncomputable def R_build : FnRec := ⟨128, 127, "_build_localename", "_build_localename", stOf 6, [], .none⟩
noncomputable def R_cinit : FnRec := ⟨142, 141, "__init__", "TupleComp.__init__", inCls (stOf 8) 0, [], .none⟩
noncomputable def R_compare : FnRec := ⟨149, 148, "compare", "TupleComp.compare", inCls (stOf 8) 1, [], .none⟩
noncomputable def R_std : FnRec := ⟨163, 162, "func_std_string", "func_std_string", stOf 9, [], .none⟩
noncomputable def R_stats : FnRec := ⟨170, 169, "add_func_stats", "add_func_stats", stOf 10, [], .none⟩
noncomputable def R_callers : FnRec := ⟨177, 176, "add_callers", "add_callers", stOf 11, [], .none⟩
noncomputable def R_count : FnRec := ⟨184, 183, "count_calls", "count_calls", stOf 12, [], .none⟩
noncomputable def R_quote : FnRec := ⟨201, 200, "quotedata", "quotedata", stOf 17, [], .none⟩
noncomputable def R_drawn : FnRec := ⟨208, 207, "_law_drawn", "_law_drawn", stOf 19, [], .none⟩
noncomputable def R_written : FnRec := ⟨215, 214, "_law_written", "_law_written", stOf 20, [], .none⟩
noncomputable def R_sent : FnRec := ⟨222, 221, "_law_as_sent", "_law_as_sent", stOf 21, [], .none⟩
noncomputable def R_order : FnRec := ⟨229, 228, "_law_in_order", "_law_in_order", stOf 22, [], .none⟩
noncomputable def R_run : FnRec := ⟨234, 233, "_law_run", "_law_run", stOf 23, [], .none⟩
noncomputable def R_time : FnRec := ⟨239, 238, "_law_in_time", "_law_in_time", stOf 24, [], .none⟩
noncomputable def R_tables : FnRec := ⟨244, 243, "_law_tables", "_law_tables", stOf 25, [], .none⟩
noncomputable def R_book : FnRec := ⟨251, 250, "_law_book", "_law_book", stOf 26, [], .none⟩
noncomputable def R_law : FnRec := ⟨256, 255, "law", "law", stOf 27, [], .none⟩
noncomputable def FNS : List FnRec := [R_init, R_push, R_pop_from, R_len, R_str, R_part, R_build, R_cinit, R_compare, R_std, R_stats, R_callers, R_count, R_quote, R_drawn, R_written, R_sent, R_order, R_run, R_time, R_tables, R_book, R_law]

structure Inv (c : Cx) (s : Shared) : Prop where
  gl : s.heap.Ns mainGlobals c.mg
  bl : s.heap.Ns builtinsNs c.mb
  lim : s.heap.NoLimit
  fn : ∀ f ∈ FNS, FnAt s.heap f
  kin : c.K.In s.heap
  low : ∀ a o, c.K.lookup a = some o → a ∉ tabs ∧ @LE.le Nat _ a 256
  bare : AllBare s.gens
  tab : ∀ a ∈ tabs, ∃ ps : Trip, s.heap.get? a = some (tabO ps.vs)
  bmod : ∃ ob, c.mg "__builtins__" = some (.ref 4) ∧ s.heap.get? 4 = some ob ∧ ob.cls = .type "module" ∧ ob.dict = some builtinsNs ∧ ob.data = .plain
structure Cx.Ok (c : Cx) : Prop where
  fn : ∀ f ∈ FNS.drop 9, c.mg f.nm = some (.ref f.a)
  build : c.mg "_build_localename" = some (.ref 128)
  empty : ∃ t, c.mg "EMPTYSTRING" = some (.str "" t)
  crlf : ∃ t, c.mg "CRLF" = some (.str "\r\n" t)
  re1 : c.mg "_twin_re_1" = some (.ref 189)
  re2 : c.mg "_twin_re_2" = some (.ref 194)
  acc : c.mg "_Accumulator" = some (.ref 117)
  comp : c.mg "TupleComp" = some (.ref 152)
  ga152 : findIn c.K (.ref 152) "__getattribute__" = some (some (.builtin "object.__getattribute__"))
  sel152 : findIn c.K (.ref 152) "comp_select_list" = some none
  cls152 : ∃ cd, clsIn c.K 152 = some cd ∧ cd.hasDict = true
  cmp152 : findIn c.K (.ref 152) "compare" = some (some (.ref 149))
  fn149 : isFn c.K (.ref 149) = true
  pg152 : plainGet c.K 152 "compare" = true
  blt : ∀ x : Str, x ≠ "__name__" → c.mb x = bootBuiltins x
  no : ∀ x ∈ (["len", "range", "sum", "sorted", "zip", "isinstance", "tuple", "str", "TypeError", "ValueError", "list", "super"] : List Str), c.mg x = none

theorem ns_keep {h h' : Heap} (k : Keep h h') {a : Addr} {m : Str → Option Value} (x : h.Ns a m) : h'.Ns a m := by
  obtain ⟨o, es, ep, ho, hd, r⟩ := x
  rcases k a o ho with e | ⟨_, ps, more, rfl, _⟩
  · exact ⟨o, es, ep, e, hd, r⟩
  · cases hd
theorem lim_keep {h h' : Heap} (k : Keep h h') (x : h.NoLimit) : h'.NoLimit := let ⟨m, a, b⟩ := x; ⟨m, ns_keep k a, b⟩
theorem tab_step {h h' : Heap} {a : Addr} (x : ∃ ps : Trip, h.get? a = some (tabO ps.vs)) (k : ∀ o, h.get? a = some o → h'.get? a = some o ∨ ∃ (ps : Array Value) (more : Trip), o = tabO ps ∧ h'.get? a = some (tabO (ps ++ more.vs))) : ∃ ps : Trip, h'.get? a = some (tabO ps.vs) := by
  obtain ⟨ps, e⟩ := x
  rcases k _ e with q | ⟨ps', more, e', q⟩
  · exact ⟨ps, q⟩
  · have : ps.vs = ps' := by
      have := congrArg Obj.data e'
      injection this with this
    exact ⟨ps.app more, by rw [q, ← this]⟩
theorem Inv.keep {c : Cx} {s s' : Shared} (I : Inv c s) (k : Keep s.heap s'.heap) (hb : AllBare s'.gens) : Inv c s' :=
  ⟨ns_keep k I.gl, ns_keep k I.bl, lim_keep k I.lim, fun f hf => (I.fn f hf).keep k, fun a o e => k.getN (I.kin a o e) (I.low a o e).1, I.low, hb, fun a ha => tab_step (I.tab a ha) fun o e => (k a o e).imp id fun zp => by obtain ⟨_, ps, more, q⟩ := zp; exact ⟨ps, more, q⟩, let ⟨ob, h1, h2, h3, h4⟩ := I.bmod; ⟨ob, h1, k.get h2 (by rw [h3]; intro e; cases e), h3, h4⟩⟩

structure Ext (s s' : Shared) : Prop where
  keep : Keep s.heap s'.heap
  os : s'.os = s.os
theorem Ext.refl (s : Shared) : Ext s s := ⟨.refl _, rfl⟩
theorem Ext.trans {s s' s'' : Shared} (x : Ext s s') (y : Ext s' s'') : Ext s s'' := ⟨x.keep.trans y.keep, y.os.trans x.os⟩
theorem Ext.toks (s : Shared) (t : Nat) : Ext s { s with toks := t } := ⟨.refl _, rfl⟩
theorem Inv.toks {c : Cx} {s : Shared} (I : Inv c s) (t : Nat) : Inv c { s with toks := t } := ⟨I.gl, I.bl, I.lim, I.fn, I.kin, I.low, I.bare, I.tab, I.bmod⟩

noncomputable abbrev NoE : Value → Shared → Prop := fun uu uu => False
noncomputable abbrev W (c : Cx) (n : Nat) {α : Type} (t : Sem α) (Q : α → Shared → Prop) (s : Shared) : Prop := wpAny (model PR c.w) (AL n) t Q NoE s

structure Ez (c : Cx) (s s' : Shared) (R : Prop) : Prop where
  e : Ext s s'
  I : Inv c s'
  r : R
theorem wz {M : Model} {A : Around} {c : Cx} {α : Type} {t : Sem α} {s : Shared} {R Q : α → Shared → Prop} {E : Value → Shared → Prop} (x : wpAny M A t (fun v s' => Ez c s s' (R v s')) NoE s)
    (k : ∀ v s', Ext s s' → Inv c s' → R v s' → Q v s') : wpAny M A t Q E s := wpAny_mono x (fun v s' z => k v s' z.e z.I z.r) fun uu uu z => z.elim
noncomputable def Ev (c : Cx) (n : Nat) (s₀ : Shared) {α : Type} (t : Sem α) (R : Shared → α → Prop) : Prop :=
  ∀ s, Ext s₀ s → Inv c s → W c n t (fun v s' => Ez c s s' (R s' v)) s

section
variable {c : Cx} {n : Nat} {s₀ s₁ : Shared} {α β : Type} {t : Sem α} {R : Shared → α → Prop}
theorem Ev.at (x : Ev c n s₀ t R) (k : Ext s₀ s₁) : Ev c n s₁ t R := fun s e I => x s (k.trans e) I
theorem Ev.imp {R' : Shared → α → Prop} (x : Ev c n s₀ t R) (h : ∀ s v, Ext s₀ s → Inv c s → R s v → R' s v) : Ev c n s₀ t R' := fun s e I =>
  wz (x s e I) (fun v s' a b r => ⟨a, b, h s' v (e.trans a) b r⟩)
end
end Mine
end
section
open PySem PySem.W PySem.Calls PyProof.Rows
set_option linter.unusedVariables false
set_option maxRecDepth 100000
namespace Mine
set_option genSizeOf false
set_option genInjectivity false
set_option tactic.hygienic false
theorem pk0 {α β : Type} [BEq α] {σ : List (α × β)} : ∀ p ∈ ([] : List (α × β)), σ.lookup p.1 = some p.2 := fun uu h => nomatch h
theorem pk {α β : Type} [BEq α] {σ r : List (α × β)} {q : α × β} (h : σ.lookup q.1 = some q.2) (t : ∀ p ∈ r, σ.lookup p.1 = some p.2) : ∀ p ∈ q :: r, σ.lookup p.1 = some p.2 := fun p hp => by
  rcases List.mem_cons.mp hp with rfl | hp
  · exact h
  · exact t p hp

noncomputable def Kp (Z : Addr → Prop) (h h' : Heap) : Prop := ∀ b o, h.get? b = some o → Z b ∨ h'.get? b = some o ∨ (b ∈ tabs ∧ ∃ (ps : Array Value) (more : Trip), o = tabO ps ∧ h'.get? b = some (tabO (ps ++ more.vs)))
theorem Kp.of {Z : Addr → Prop} {h h' : Heap} (k : Keep h h') : Kp Z h h' := fun b o e => .inr (k b o e)
theorem Kp.refl (Z : Addr → Prop) (h : Heap) : Kp Z h h := .of (.refl h)
theorem Kp.keep {h h' : Heap} (k : Kp (fun uu => False) h h') : Keep h h' := fun b o e => (k b o e).resolve_left id
theorem Kp.get {Z : Addr → Prop} {h h' : Heap} (x : Kp Z h h') {b : Addr} {o : Obj} (e : h.get? b = some o) (hz : ¬ Z b) (hc : o.cls ≠ .none) : h'.get? b = some o := by
  rcases x b o e with a | a | ⟨_, ps, more, rfl, _⟩
  · exact absurd a hz
  · exact a
  · exact absurd rfl hc
theorem Kp.there {Z : Addr → Prop} {h h' : Heap} (x : Kp Z h h') {b : Addr} (e : (h.get? b).isSome = true) (hz : ¬ Z b) : (h'.get? b).isSome = true := by
  obtain ⟨o, ho⟩ := Option.isSome_iff_exists.mp e
  rcases x b o ho with a | a | ⟨_, _, _, _, a⟩
  · exact absurd a hz
  · rw [a]; rfl
  · rw [a]; rfl
theorem Kp.trans {Z Y : Addr → Prop} {h h' h'' : Heap} (x : Kp Z h h') (y : Kp Y h' h'') (hy : ∀ a, Y a → Z a ∨ h.get? a = none) : Kp Z h h'' := fun b o e => by
  have key : Y b → Z b := fun q => (hy b q).resolve_right (by rw [e]; intro z; cases z)
  rcases x b o e with a | a | ⟨hb, ps, more, rfl, a⟩
  · exact .inl a
  · rcases y b o a with a' | a' | a'
    · exact .inl (key a')
    · exact .inr (.inl a')
    · exact .inr (.inr a')
  · rcases y b _ a with a' | a' | ⟨_, ps', more', e', a'⟩
    · exact .inl (key a')
    · exact .inr (.inr ⟨hb, ps, more, rfl, a'⟩)
    · refine .inr (.inr ⟨hb, ps, more.app more', rfl, ?_⟩)
      have : ps' = ps ++ more.vs := by
        have := congrArg Obj.data e'
        injection this with this
        exact this.symm
      rw [a', this, Array.append_assoc]
theorem Kp.wide {Z Y : Addr → Prop} {h h' : Heap} (x : Kp Z h h') (hy : ∀ a, Z a → Y a) : Kp Y h h' := fun b o e => (x b o e).imp (hy b) id
theorem Kp.same {Z : Addr → Prop} {h h' : Heap} {a : Addr} (hs : Heap.SameBut a h h') (ha : Z a) : Kp Z h h' := fun b o e => by
  by_cases q : b = a
  · subst q; exact .inl ha
  · exact .inr (.inl ((hs.2 b q).trans e))
theorem Kp.but {Z : Addr → Prop} {h h' : Heap} {a : Addr} (hs : Heap.ExtBut a h h') (ha : Z a) : Kp Z h h' := fun b o e => by
  by_cases q : b = a
  · subst q; exact .inl ha
  · exact .inr (.inl (hs b o q e))
theorem Mv.kp {Z X : Addr → Prop} {h h' : Heap} (k : Kp Z h h') (hz : ∀ a, Z a → X a) : Mv h h' X X := ⟨fun a uu n e c => k.get e (fun q => n (hz a q)) c, fun uu n uu => n⟩

inductive LV where
  | tr (d : D)
  | ls (a : Addr) (ds : List D)
  | va (u : Value)
  | dc (a : Addr) (es : List (Int × Int))
  | ac (a dx : Addr) (ds : List D) (i0 : Int)
noncomputable def LV.addrs : LV → List Addr
  | .ls a _ => [a]
  | .dc a _ => [a]
  | .ac a dx _ _ => [a, dx]
  | _ => []
noncomputable def LV.ok (h : Heap) (X own : Addr → Prop) : LV → Value → Prop
  | .tr d, v => Tr h X d v
  | .ls a ds, v => v = .ref a ∧ own a ∧ ∃ vs, IsL h a vs ∧ TrL h X ds vs.toList
  | .va u, v => v = u
  | .dc a es, v => v = .ref a ∧ own a ∧ Dct h a es
  | .ac a dx ds i0, v => v = .ref a ∧ own a ∧ own dx ∧ ∃ vs, AccRaw h a dx vs i0 ∧ TrL h X ds vs.toList

structure Fm (h : Heap) (env : Env) (vm : Str → Option Value) : Prop where
  ns : ∃ m, h.Ns env.locals m ∧ ∀ x, env.kindOf x = some .local → m x = vm x
  cell : ∀ x c, env.kindOf x = some .cell → env.cells.lookup x = some c → h.IsCell c (vm x)
  apart : env.cells.Pairwise fun x y => x.2 ≠ y.2
  above : ∀ n c, (n, c) ∈ env.cells → env.locals ≠ c
  has : ∀ x, env.kindOf x = some .cell → (env.cells.lookup x).isSome = true

structure Bd (c : Cx) (env : Env) (X₀ own Z : Addr → Prop) (hA : Heap) (os : OsState) (s : Shared) (σ : List (Str × LV)) : Prop where
  inv : Inv c s
  os : s.os = os
  chg : Kp Z hA s.heap
  mine : ∀ a, own a → Z a ∨ hA.get? a = none
  ex : ∀ a, X₀ a ∨ own a → (s.heap.get? a).isSome = true
  far : ∀ a, own a → @LT.lt Nat _ 256 a
  dis : ∀ a, own a → ¬ X₀ a
  ownL : own env.locals
  ownC : ∀ x c, (x, c) ∈ env.cells → own c
  dcs : ∀ x lv a, σ.lookup x = some lv → a ∈ lv.addrs → a ≠ env.locals ∧ ∀ y c, (y, c) ∈ env.cells → a ≠ c
  loc : ∃ vm, Fm s.heap env vm ∧ ∀ x lv, σ.lookup x = some lv → ∃ v, vm x = some v ∧ lv.ok s.heap (fun a => X₀ a ∨ own a) own v

theorem cell_kp {Z : Addr → Prop} {h h' : Heap} (k : Kp Z h h') {a : Addr} {v : Option Value} (hz : ¬ Z a) (x : h.IsCell a v) : h'.IsCell a v := by
  obtain ⟨o, ho, hd⟩ := x
  rcases k a o ho with e | e | ⟨_, ps, more, rfl, _⟩
  · exact absurd e hz
  · exact ⟨o, e, hd⟩
  · cases hd
theorem ns_kp {Z : Addr → Prop} {h h' : Heap} (k : Kp Z h h') {a : Addr} {m : Str → Option Value} (hz : ¬ Z a) (x : h.Ns a m) : h'.Ns a m := by
  obtain ⟨o, es, ep, ho, hd, r⟩ := x
  rcases k a o ho with e | e | ⟨_, ps, more, rfl, _⟩
  · exact absurd e hz
  · exact ⟨o, es, ep, e, hd, r⟩
  · cases hd
theorem Fm.kp {Z : Addr → Prop} {h h' : Heap} {env : Env} {vm : Str → Option Value} (F : Fm h env vm) (k : Kp Z h h') (h1 : ¬ Z env.locals) (h2 : ∀ x c, (x, c) ∈ env.cells → ¬ Z c) : Fm h' env vm :=
  ⟨let ⟨m, a, b⟩ := F.ns; ⟨m, ns_kp k h1 a, b⟩, fun x c q e => cell_kp k (h2 x c (mem_of_lookup e)) (F.cell x c q e), F.apart, F.above, F.has⟩
theorem LV.ok.mv {h h' : Heap} {X X' own own' : Addr → Prop} (k : Mv h h' X X') : ∀ {lv : LV} {v : Value}, (∀ a o, a ∈ lv.addrs → own a → h.get? a = some o → o.cls ≠ .none → h'.get? a = some o) → (∀ a, own a → own' a) → lv.ok h X own v → lv.ok h' X' own' v
  | .tr d, u1, u2, u3, x => Tr.mv k d _ x
  | .ls a ds, u1, hl, ho, x => by
    obtain ⟨vs, h1, h2⟩ := x.2.2
    exact ⟨x.1, ho a x.2.1, vs, list_obj h1 fun q q1 q2 => hl a q (List.mem_cons_self ..) x.2.1 q1 q2, TrL.mv k ds _ h2⟩
  | .va u1, u2, u3, u4, x => x
  | .dc a es, u1, hl, ho, x => by
    obtain ⟨l, ob, n, h1, h2, h3⟩ := x.2.2.2
    exact ⟨x.1, ho a x.2.1, x.2.2.1, l, ob, n, hl a ob (List.mem_cons_self ..) x.2.1 h1 (by rw [h2.1]; intro e; cases e), h2, h3⟩
  | .ac a dx ds i0, u1, hl, ho, x => by
    obtain ⟨vs, h1, h2⟩ := x.2.2.2
    exact ⟨x.1, ho a x.2.1, ho dx x.2.2.1, vs, h1.keep (fun o q1 q2 => hl a o (List.mem_cons_self ..) x.2.1 q1 q2) (fun o q1 q2 => hl dx o (List.mem_cons_of_mem _ (List.mem_cons_self ..)) x.2.2.1 q1 q2), TrL.mv k ds _ h2⟩

section
variable {c : Cx} {env : Env} {X₀ own Z : Addr → Prop} {hA : Heap} {os : OsState} {s s' : Shared} {σ σ' : List (Str × LV)}
theorem Bd.ext (B : Bd c env X₀ own Z hA os s σ) (e : Ext s s') (I : Inv c s') : Bd c env X₀ own Z hA os s' σ where
  inv := I
  os := e.os.trans B.os
  chg := B.chg.trans (Y := fun uu => False) (.of e.keep) (fun uu q => q.elim)
  mine := B.mine
  ex := fun a h => e.keep.there (B.ex a h)
  far := B.far
  dis := B.dis
  ownL := B.ownL
  ownC := B.ownC
  dcs := B.dcs
  loc := let ⟨vm, F, h⟩ := B.loc; ⟨vm, F.kp (Z := fun uu => False) (.of e.keep) id (fun uu uu uu q => q), fun x lv q => let ⟨v, a, b⟩ := h x lv q; ⟨v, a, LV.ok.mv (.keep e.keep) (fun a o uu uu q1 q2 => e.keep.get q1 q2) (fun uu z => z) b⟩⟩
theorem Bd.pick (B : Bd c env X₀ own Z hA os s σ) (h : ∀ p ∈ σ', σ.lookup p.1 = some p.2) : Bd c env X₀ own Z hA os s σ' :=
  { B with
    dcs := fun x lv a q ha => B.dcs x lv a (h (x, lv) (mem_of_lookup q)) ha
    loc := let ⟨vm, F, g⟩ := B.loc; ⟨vm, F, fun x lv q => g x lv (h (x, lv) (mem_of_lookup q))⟩ }
theorem Bd.anew (B : Bd c env X₀ own Z hA os s σ) : Bd c env X₀ own own s.heap os s σ :=
  { B with chg := .refl _ _, mine := fun uu h => .inl h }
theorem Bd.back {own' : Addr → Prop} {s₁ : Shared} (B : Bd c env X₀ own Z hA os s σ) (B' : Bd c env X₀ own' own s.heap os s₁ σ') : Bd c env X₀ own' Z hA os s₁ σ' := by
  refine { B' with chg := B.chg.trans B'.chg B.mine, mine := fun a h => ?_ }
  rcases B'.mine a h with q | q
  · exact B.mine a q
  · cases e : hA.get? a with
    | none => exact .inr rfl
    | some o =>
      rcases B.chg a o e with z | z | ⟨_, _, _, _, z⟩
      · exact .inl z
      · rw [q] at z; cases z
      · rw [q] at z; cases z
end

theorem Fm.store_local {h h' : Heap} {env : Env} {vm : Str → Option Value} {x : Str} {v : Value} (F : Fm h env vm) (hk : env.kindOf x = some .local)
    (hn : ∀ m, h.Ns env.locals m → h'.Ns env.locals (fun y => if y = x then some v else m y)) (hs : Heap.SameBut env.locals h h') : Fm h' env (fun y => if y = x then some v else vm y) where
  ns := by
    obtain ⟨m, a, b⟩ := F.ns
    refine ⟨_, hn m a, fun y hy => ?_⟩
    by_cases e : y = x
    · simp only [e, if_true]
    · simp only [e, if_false]; exact b y hy
  cell := fun y cc hy e => by
    have : y ≠ x := by rintro rfl; rw [hk] at hy; cases hy
    simp only [this, if_false]
    exact (F.cell y cc hy e).sameBut hs (Ne.symm (F.above y cc (mem_of_lookup e)))
  apart := F.apart
  above := F.above
  has := F.has
theorem Fm.store_cell {h h' : Heap} {env : Env} {vm : Str → Option Value} {x : Str} {cc : Addr} {v : Value} (F : Fm h env vm) (hk : env.kindOf x = some .cell) (hc : env.cells.lookup x = some cc)
    (hn : h'.IsCell cc (some v)) (hs : Heap.SameBut cc h h') : Fm h' env (fun y => if y = x then some v else vm y) where
  ns := by
    obtain ⟨m, a, b⟩ := F.ns
    refine ⟨m, a.sameBut hs (F.above x cc (mem_of_lookup hc)), fun y hy => ?_⟩
    have : y ≠ x := by rintro rfl; rw [hk] at hy; cases hy
    simp only [this, if_false]; exact b y hy
  cell := fun y c' hy e => by
    by_cases q : y = x
    · subst q; rw [hc] at e; cases e
      simpa only [if_true] using hn
    · simp only [q, if_false]
      exact (F.cell y c' hy e).sameBut hs fun z => q (name_of_addr F.apart (mem_of_lookup e) (z ▸ mem_of_lookup hc))
  apart := F.apart
  above := F.above
  has := F.has


theorem ne_low {a b : Addr} (ha : @LT.lt Nat _ 256 a) (hb : @LE.le Nat _ b 256) : b ≠ a := fun e => by subst e; exact absurd ha (Nat.not_lt.mpr hb)
theorem FNS_low : ∀ f ∈ FNS, f.a ≤ 256 ∧ f.cd ≤ 256 := by
  have : (FNS.all fun f => decide (f.a ≤ 256) && decide (f.cd ≤ 256)) = true := by rfl
  intro f hf
  have := List.all_eq_true.mp this f hf
  simpa using this
theorem law_in : R_law ∈ FNS := inF 22 rfl
theorem Inv.size {c : Cx} {s : Shared} (I : Inv c s) : 256 < s.heap.objs.size := by
  obtain ⟨o, kV, doc, pm, an, ct, h1, _⟩ := I.fn R_law law_in
  exact Heap.lt_size h1
theorem tabs_low : ∀ a ∈ tabs, @LE.le Nat _ a 256 := by decide
theorem Inv.kp {c : Cx} {s s' : Shared} {Y : Addr → Prop} (I : Inv c s) (k : Kp Y s.heap s'.heap) (hY : ∀ a, Y a → @LT.lt Nat _ 256 a) (hb : AllBare s'.gens) : Inv c s' := by
  have low : ∀ a : Addr, @LE.le Nat _ a 256 → ¬ Y a := fun a h q => absurd (hY a q) (Nat.not_lt.mpr h)
  refine ⟨ns_kp k (low _ (by decide)) I.gl, ns_kp k (low _ (by decide)) I.bl, let ⟨m, a, b⟩ := I.lim; ⟨m, ns_kp k (low _ (by decide)) a, b⟩, fun f m => ?_, fun b o e => ?_, I.low, hb, fun a ha => tab_step (I.tab a ha) fun o e => ((k a o e).resolve_left (low a (tabs_low a ha))).imp id fun zp => by obtain ⟨_, ps, more, q⟩ := zp; exact ⟨ps, more, q⟩, let ⟨ob, h1, h2, h3, h4⟩ := I.bmod; ⟨ob, h1, k.get h2 (low 4 (by decide)) (by rw [h3]; intro e; cases e), h3, h4⟩⟩
  · have := FNS_low f m
    obtain ⟨o, kV, doc, pm, an, ct, h1, h2, h3, oc, vs, t, h4, h5, h6⟩ := I.fn f m
    exact ⟨o, kV, doc, pm, an, ct, k.get h1 (low _ this.1) (by rw [h2]; intro e; cases e), h2, h3, oc, vs, t, k.get h4 (low _ this.2) (by rw [h5]; intro e; cases e), h5, h6⟩
  · have lo := I.low b o e
    rcases k b o (I.kin b o e) with z | z | ⟨z, _⟩
    · exact absurd z (low _ lo.2)
    · exact z
    · exact absurd z lo.1
theorem Inv.sameBut {c : Cx} {s : Shared} {a : Addr} {h' : Heap} {t : Tok} (I : Inv c s) (hs : Heap.SameBut a s.heap h') (ha : @LT.lt Nat _ 256 a) : Inv c { s with heap := h', toks := t } :=
  I.kp (Y := fun b => b = a) (.same hs rfl) (fun b e => e ▸ ha) I.bare
end Mine
end
section
open PySem PySem.W PySem.Calls PyProof.Rows
set_option linter.unusedVariables false
set_option maxRecDepth 100000
namespace Mine
set_option genSizeOf false
set_option genInjectivity false
set_option tactic.hygienic false

noncomputable def isLC (k : Option NameKind) : Bool := match k with
  | some .local | some .cell => true
  | _ => false
theorem isLC_or {k : Option NameKind} (h : isLC k = true) : k = some .local ∨ k = some .cell := by
  cases k with
  | none => exact absurd h Bool.false_ne_true
  | some k => cases k <;> first | exact .inl rfl | exact .inr rfl | exact absurd h Bool.false_ne_true
theorem isLC_l : isLC (some .local) = true := rfl
theorem isLC_c : isLC (some .cell) = true := rfl

section
variable {c : Cx} {n : Nat} {env : Env} {X₀ own Z : Addr → Prop} {hA : Heap} {os : OsState} {s s' : Shared} {σ : List (Str × LV)} {x : Str} {v : Value} {lv : LV}

theorem list_ne_ns {h : Heap} {a L : Addr} {vs : Array Value} {m : Str → Option Value} (x : IsL h a vs) (y : h.Ns L m) : a ≠ L := by
  rintro rfl
  obtain ⟨o, ho, _, n, hd⟩ := x.is
  obtain ⟨o', es, ep, ho', hd', _⟩ := y
  rw [ho] at ho'; cases ho'
  rw [hd] at hd'; cases hd'
theorem list_ne_cell {h : Heap} {a L : Addr} {vs : Array Value} {v : Option Value} (x : IsL h a vs) (y : h.IsCell L v) : a ≠ L := by
  rintro rfl
  obtain ⟨o, ho, _, n, hd⟩ := x.is
  obtain ⟨o', ho', hd'⟩ := y
  rw [ho] at ho'; cases ho'
  rw [hd] at hd'; cases hd'
theorem list_same {h h' : Heap} {a b : Addr} {vs : Array Value} (hs : Heap.SameBut b h h') (x : IsL h a vs) (n : a ≠ b) : IsL h' a vs :=
  let ⟨o, ho⟩ := x; ⟨o, (hs.2 a n).trans ho⟩

theorem Bd.moved {h' : Heap} {t : Tok} {a : Addr} {vm' : Str → Option Value} {σ' : List (Str × LV)} (B : Bd c env X₀ own Z hA os s σ) (ha : own a) (hs : Heap.SameBut a s.heap h') (hsome : (h'.get? a).isSome = true) (hl : ∀ y lv b, σ'.lookup y = some lv → b ∈ lv.addrs → b ≠ a) (hdc : ∀ x lv b, σ'.lookup x = some lv → b ∈ lv.addrs → b ≠ env.locals ∧ ∀ y c, (y, c) ∈ env.cells → b ≠ c)
    (F : Fm h' env vm') (h : ∀ y lv, σ'.lookup y = some lv → ∃ v, vm' y = some v ∧ lv.ok s.heap (fun a => X₀ a ∨ own a) own v) :
    Bd c env X₀ own Z hA os { s with heap := h', toks := t } σ' where
  inv := B.inv.sameBut hs (B.far a ha)
  os := B.os
  chg := B.chg.trans (Y := own) (.same hs ha) B.mine
  mine := B.mine
  ex := fun b hb => by
    by_cases q : b = a
    · subst q; exact hsome
    · rw [show ({ s with heap := h', toks := t } : Shared).heap.get? b = s.heap.get? b from hs.2 b q]; exact B.ex b hb
  far := B.far
  dis := B.dis
  ownL := B.ownL
  ownC := B.ownC
  dcs := hdc
  loc := ⟨vm', F, fun y lv q => let ⟨v, e, k⟩ := h y lv q; ⟨v, e, LV.ok.mv (.same hs (.inr ha)) (fun b o z uu q1 uu => (hs.2 b (hl y lv b q z)).trans q1) (fun uu z => z) k⟩⟩
theorem lookup_cons_or {x y : Str} {lv l' : LV} {σ : List (Str × LV)} (h : ((x, lv) :: σ).lookup y = some l') : (y = x ∧ lv = l') ∨ (y ≠ x ∧ σ.lookup y = some l') := by
  rw [List.lookup_cons] at h
  by_cases e : y = x
  · subst e
    simp only [beq_self_eq_true] at h
    exact .inl ⟨rfl, Option.some.inj h⟩
  · have : (y == x) = false := beq_eq_false_iff_ne.mpr e
    rw [this] at h
    exact .inr ⟨e, h⟩

theorem st_name {M : Model} {A : Around} {E : Value → Shared → Prop} {Q : Unit → Shared → Prop} (B : Bd c env X₀ own Z hA os s σ) (hk : env.scope.kind = .function) (hx : isLC (env.kindOf x) = true)
    (hv : lv.ok s.heap (fun a => X₀ a ∨ own a) own v) (h : ∀ s', Bd c env X₀ own Z hA os s' ((x, lv) :: σ) → Q () s') (hd : autoParam (∀ a ∈ lv.addrs, a ≠ env.locals ∧ ∀ y c, (y, c) ∈ env.cells → a ≠ c) tacN) : wpAny M A (storeName env x v) Q E s := by
  have hdc : ∀ y l' b, ((x, lv) :: σ).lookup y = some l' → b ∈ l'.addrs → b ≠ env.locals ∧ ∀ y c, (y, c) ∈ env.cells → b ≠ c := fun y l' b q hb => by
    rcases lookup_cons_or q with ⟨_, e⟩ | ⟨_, q⟩
    · subst e; exact hd b hb
    · exact B.dcs y l' b q hb
  obtain ⟨vm, F, hl⟩ := B.loc
  have key : ∀ (y : Str) (l' : LV), ((x, lv) :: σ).lookup y = some l' → ∃ u, (if y = x then some v else vm y) = some u ∧ l'.ok s.heap (fun a => X₀ a ∨ own a) own u := fun y l' q => by
    rcases lookup_cons_or q with ⟨rfl, rfl⟩ | ⟨ne, q⟩
    · exact ⟨v, by simp, hv⟩
    · obtain ⟨u, a, b⟩ := hl y l' q
      exact ⟨u, by rw [if_neg ne]; exact a, b⟩
  rcases isLC_or hx with e | e
  · obtain ⟨m, hm, hmv⟩ := F.ns
    refine wpAny_storeName_local e hm (fun h' hn hs => h _ ?_) (by rw [hk]; rfl)
    refine B.moved (vm' := fun y => if y = x then some v else vm y) B.ownL hs (by obtain ⟨o, _, _, ho, _⟩ := hn; rw [ho]; rfl) (fun y l' b q1 q2 => (hdc y l' b q1 q2).1) hdc (F.store_local e (fun m' hm' => ?_) hs) key
    have : m' = m := by
      obtain ⟨o, es, ep, h1, h2, _, h4⟩ := hm'
      obtain ⟨o', es', ep', h1', h2', _, h4'⟩ := hm
      rw [h1] at h1'; cases h1'
      rw [h2] at h2'; cases h2'
      funext y; rw [← h4 y, ← h4' y]
    rw [this]; exact hn
  · obtain ⟨cc, hc⟩ := Option.isSome_iff_exists.mp (F.has x e)
    refine wpAny_storeName_cell hk e hc (F.cell x cc e hc) (fun h' hn hs => h _ ?_)
    have ow := B.ownC x cc (mem_of_lookup hc)
    exact B.moved (t := s.toks) (vm' := fun y => if y = x then some v else vm y) ow hs (by obtain ⟨o, ho, _⟩ := hn; rw [ho]; rfl) (fun y l' b q1 q2 => (hdc y l' b q1 q2).2 x cc (mem_of_lookup hc)) hdc (F.store_cell e hc hn hs) key

theorem ld_name {M : Model} {A : Around} {E : Value → Shared → Prop} {Q : Value → Shared → Prop} {pos : Pos} (B : Bd c env X₀ own Z hA os s σ) (hk : env.scope.kind = .function) (hx : isLC (env.kindOf x) = true)
    (hs : σ.lookup x = some lv) (h : ∀ v, lv.ok s.heap (fun a => X₀ a ∨ own a) own v → Q v s) (hd : autoParam ((x == ("__debug__" : Str)) = false) tacD) : wpAny M A (eval (.Name x pos) env) Q E s := by
  obtain ⟨vm, F, hl⟩ := B.loc
  obtain ⟨v, e, ok⟩ := hl x lv hs
  refine wpAny_Name ?_ hd
  rcases isLC_or hx with q | q
  · obtain ⟨m, hm, hmv⟩ := F.ns
    exact wpAny_loadName_local hk q hm ((hmv x q).trans e) (h v ok)
  · obtain ⟨cc, hc⟩ := Option.isSome_iff_exists.mp (F.has x q)
    exact wpAny_loadName_cell hk q hc (e ▸ F.cell x cc q hc) (h v ok)
end

noncomputable abbrev TrP (X : Addr → Prop) (d : D) : Shared → Value → Prop := fun s v => Tr s.heap X d v
noncomputable abbrev EvD (c : Cx) (n : Nat) (X : Addr → Prop) (s₀ : Shared) (t : Sem Value) (d : D) : Prop := Ev c n s₀ t (TrP X d)
noncomputable abbrev EvV (c : Cx) (n : Nat) (s₀ : Shared) (t : Sem Value) (v : Value) : Prop := Ev c n s₀ t (fun uu u => u = v)
noncomputable abbrev EvB (c : Cx) (n : Nat) (s₀ : Shared) (t : Sem Bool) (b : Bool) : Prop := Ev c n s₀ t (fun uu u => u = b)
noncomputable abbrev EvL (c : Cx) (n : Nat) (X : Addr → Prop) (s₀ : Shared) (t : Sem (List Value)) (ds : List D) : Prop := Ev c n s₀ t (fun s vs => TrL s.heap X ds vs)

section
variable {c : Cx} {n : Nat} {env : Env} {X X₀ own Z : Addr → Prop} {hA : Heap} {os : OsState} {s s' : Shared} {σ : List (Str × LV)} {x : Str} {v : Value} {lv : LV} {d : D} {pos : Pos}
theorem Tr.ext {s s' : Shared} {X : Addr → Prop} {d : D} {v : Value} (x : Tr s.heap X d v) (e : Ext s s') : Tr s'.heap X d v := Tr.mv (.keep e.keep) d v x
theorem TrL.ext {s s' : Shared} {X : Addr → Prop} {d : List D} {v : List Value} (x : TrL s.heap X d v) (e : Ext s s') : TrL s'.heap X d v := TrL.mv (.keep e.keep) d v x
theorem EvD.less {t : Sem Value} (x : EvD c n X s t d) (h : ∀ a, X₀ a → X a) : EvD c n X₀ s t d := x.imp fun s v uu uu y => Tr.mv (.less h) d v y

theorem ev_loc (B : Bd c env X₀ own Z hA os s σ) (hs : σ.lookup x = some (.tr d)) (hk : autoParam (env.scope.kind = .function) tacR) (hx : autoParam (isLC (env.kindOf x) = true) tacR) (hd : autoParam ((x == ("__debug__" : Str)) = false) tacD) :
    EvD c n (fun a => X₀ a ∨ own a) s (eval (.Name x pos) env) d := fun s' e I =>
  ld_name (B.ext e I) hk hx hs (fun v ok => ⟨.refl _, I, ok⟩) hd
theorem ev_live {a : Addr} {ds : List D} (B : Bd c env X₀ own Z hA os s σ) (hs : σ.lookup x = some (.ls a ds)) (hk : autoParam (env.scope.kind = .function) tacR) (hx : autoParam (isLC (env.kindOf x) = true) tacR) (hd : autoParam ((x == ("__debug__" : Str)) = false) tacD) :
    EvV c n s (eval (.Name x pos) env) (.ref a) := fun s' e I =>
  ld_name (B.ext e I) hk hx hs (fun v ok => ⟨.refl _, I, ok.1⟩) hd
theorem ev_global {u : Value} (I : Inv c s) (hg : c.mg x = some u) (hk : autoParam (env.scope.kind = .function) tacR) (hx : autoParam (env.kindOf x = some .globalImplicit) tacR) (hgl : autoParam (env.globals = mainGlobals) tacR) (hd : autoParam ((x == ("__debug__" : Str)) = false) tacD) :
    EvV c n s (eval (.Name x pos) env) u := fun s' e I' =>
  Name_function_global hk hx (loadGlobal_global (hgl ▸ I'.gl) hg ⟨.refl _, I', rfl⟩) hd
theorem ev_builtin {u : Value} (O : c.Ok) (hn : c.mg x = none) (hb : bootBuiltins x = some u) (hne : autoParam (x ≠ "__name__") tacD) (hk : autoParam (env.scope.kind = .function) tacR) (hx : autoParam (env.kindOf x = some .globalImplicit) tacR) (hgl : autoParam (env.globals = mainGlobals) tacR) (hbl : autoParam (env.builtins = builtinsNs) tacR) (hd : autoParam ((x == ("__debug__" : Str)) = false) tacD) :
    EvV c n s (eval (.Name x pos) env) u := fun s' e I' =>
  Name_function_global hk hx (loadGlobal_builtin (hgl ▸ I'.gl) hn (hbl ▸ I'.bl) ((O.blt x hne).trans hb) ⟨.refl _, I', rfl⟩) hd
theorem ev_int {i : Int} {k : Nat} : EvD c n X s (eval (.Constant (.int i) k pos) env) (.int i) := fun s' uu I => wpAny_Constant_int ⟨.toks _ _, I.toks _, _, rfl⟩
theorem ev_str {i : Str} {k : Nat} : EvD c n X s (eval (.Constant (.str i) k pos) env) (.str i) := fun s' uu I => wpAny_Constant_str ⟨.toks _ _, I.toks _, _, rfl⟩
theorem ev_none {k : Nat} : EvD c n X s (eval (.Constant .none k pos) env) .none := fun s' uu I => wpAny_Constant_none ⟨.refl _, I, rfl⟩
theorem ev_bool {b : Bool} {k : Nat} : EvD c n X s (eval (.Constant (.bool b) k pos) env) (.bool b) := fun s' uu I => wpAny_Constant_bool ⟨.refl _, I, rfl⟩

noncomputable def BinD (c : Cx) (n : Nat) (op : Operator) (d1 d2 d : D) : Prop := ∀ (X : Addr → Prop) (s : Shared) (v1 v2 : Value), Inv c s → (∀ a, X a → (s.heap.get? a).isSome = true) → Tr s.heap X d1 v1 → Tr s.heap X d2 v2 → W c n (binaryOp op v1 v2) (fun v s' => Ez c s s' (Tr s'.heap X d v)) s
noncomputable def CmpD (c : Cx) (n : Nat) (op : CmpOp) (d1 d2 : D) (b : Bool) : Prop := ∀ (X : Addr → Prop) (s : Shared) (v1 v2 : Value), Inv c s → Tr s.heap X d1 v1 → Tr s.heap X d2 v2 → W c n (compareOp op v1 v2) (fun v s' => Ez c s s' (v = .bool b)) s
theorem ev_bin {op : Operator} {l r : Expr} {d1 d2 : D} (hX : ∀ a, X a → (s.heap.get? a).isSome = true) (h1 : EvD c n X s (eval l env) d1) (h2 : EvD c n X s (eval r env) d2) (ho : BinD c n op d1 d2 d) : EvD c n X s (eval (.BinOp l op r pos) env) d := fun s' e I => by
  refine wpAny_BinOp (wz (h1 s' e I) (fun a s1 e1 I1 t1 => wz (h2 s1 (e.trans e1) I1) (fun b s2 e2 I2 t2 => wz (ho X s2 a b I2 (fun a h => ((e.trans e1).trans e2).keep.there (hX a h)) (t1.ext e2) t2) (fun v s3 e3 I3 t3 => ⟨(e1.trans e2).trans e3, I3, t3⟩))))
theorem ev_cmp {op : CmpOp} {l r : Expr} {d1 d2 : D} {b : Bool} (h1 : EvD c n X s (eval l env) d1) (h2 : EvD c n X s (eval r env) d2) (ho : CmpD c n op d1 d2 b) (hm : autoParam (behindInMarks op r = false) tacU) : EvD c n X s (eval (.Compare l [op] [r] pos) env) (.bool b) := fun s' e I => by
  refine wpAny_Compare1 (wz (h1 s' e I) (fun a s1 e1 I1 t1 => wz (h2 s1 (e.trans e1) I1) (fun b s2 e2 I2 t2 => wz (ho X s2 a b I2 (t1.ext e2) t2) (fun v s3 e3 I3 t3 => ⟨(e1.trans e2).trans e3, I3, t3⟩)))) hm
theorem ev_test {op : CmpOp} {l r : Expr} {d1 d2 : D} {b : Bool} {whole : Sem Value} (h1 : EvD c n X s (eval l env) d1) (h2 : EvD c n X s (eval r env) d2) (ho : CmpD c n op d1 d2 b) (hm : autoParam (behindInMarks op r = false) tacU) : EvB c n s (isTrue (.Compare l [op] [r] pos) env whole) b := fun s' e I => by
  refine wpAny_isTrue_Compare1 (wz (h1 s' e I) (fun a s1 e1 I1 t1 => wz (h2 s1 (e.trans e1) I1) (fun b s2 e2 I2 t2 => wz (ho X s2 a b I2 (t1.ext e2) t2) (fun v s3 e3 I3 t3 => by
    subst t3; exact wpAny_truthy_bool ⟨(e1.trans e2).trans e3, I3, rfl⟩)))) hm
theorem bin_add {a b : Int} : BinD c n .Add (.int a) (.int b) (.int (a + b)) := fun X s v1 v2 I uu zp1 zp2 => by obtain ⟨t, e1⟩ := zp1; obtain ⟨u, e2⟩ := zp2; subst e1 e2; exact wpAny_add_int ⟨.toks _ _, I.toks _, _, rfl⟩
theorem bin_sub {a b : Int} : BinD c n .Sub (.int a) (.int b) (.int (a - b)) := fun X s v1 v2 I uu zp1 zp2 => by obtain ⟨t, e1⟩ := zp1; obtain ⟨u, e2⟩ := zp2; subst e1 e2; exact sub_int ⟨.toks _ _, I.toks _, _, rfl⟩
theorem cmp_lt {a b : Int} : CmpD c n .Lt (.int a) (.int b) (decide (a < b)) := fun X s v1 v2 I zp1 zp2 => by obtain ⟨t, e1⟩ := zp1; obtain ⟨u, e2⟩ := zp2; subst e1 e2; exact wpAny_lt_int ⟨.refl _, I, rfl⟩
theorem cmp_gt {a b : Int} : CmpD c n .Gt (.int a) (.int b) (decide (b < a)) := fun X s v1 v2 I zp1 zp2 => by obtain ⟨t, e1⟩ := zp1; obtain ⟨u, e2⟩ := zp2; subst e1 e2; exact gt_int ⟨.refl _, I, rfl⟩
theorem cmp_eq {a b : Int} : CmpD c n .Eq (.int a) (.int b) (a == b) := fun X s v1 v2 I zp1 zp2 => by obtain ⟨t, e1⟩ := zp1; obtain ⟨u, e2⟩ := zp2; subst e1 e2; exact eq_int ⟨.refl _, I, rfl⟩
theorem cmp_ne {a b : Int} : CmpD c n .NotEq (.int a) (.int b) (a != b) := fun X s v1 v2 I zp1 zp2 => by obtain ⟨t, e1⟩ := zp1; obtain ⟨u, e2⟩ := zp2; subst e1 e2; exact ne_int ⟨.refl _, I, rfl⟩
theorem ev_neg {e : Expr} {i : Int} (h : EvD c n X s (eval e env) (.int i)) : EvD c n X s (eval (.UnaryOp .USub e pos) env) (.int (-i)) := fun s' k I =>
  wpAny_UnaryOp (wz (h s' k I) (fun v s1 e1 I1 zr => by obtain ⟨t, r⟩ := zr; subst r; exact neg_int ⟨e1.trans (.toks _ _), I1.toks _, _, rfl⟩))

noncomputable def Rt (c : Cx) (X₀ Z : Addr → Prop) (hA : Heap) (os : OsState) (d : D) : Flow → Shared → Prop := fun fl s' => Inv c s' ∧ Kp Z hA s'.heap ∧ s'.os = os ∧ Tr s'.heap X₀ d (match fl with | .ret v => v | _ => .none)
variable {Q : Flow → Shared → Prop} {rest body orelse : List Stmt}
theorem st_assign {e : Expr} {p : Pos} (B : Bd c env X₀ own Z hA os s σ) (he : EvD c n (fun a => X₀ a ∨ own a) s (eval e env) d) (h : ∀ s', Bd c env X₀ own Z hA os s' ((x, .tr d) :: σ) → W c n (execs rest env) Q s')
    (hk : autoParam (env.scope.kind = .function) tacR) (hx : autoParam (isLC (env.kindOf x) = true) tacR) (hs : autoParam (swapsWith e (some (.Name x p)) pos.line env = pure false) tacR) :
    W c n (execs (.Assign [.Name x p] e pos :: rest) env) Q s :=
  wpAny_execs_cons (wpAny_Assign_Name (wz (he s (.refl _) B.inv) (fun v s1 e1 I1 t1 => st_name (lv := .tr d) (B.ext e1 I1) hk hx t1 fun s2 B2 => h s2 B2)) hs)
theorem st_if {e : Expr} {b : Bool} (I : Inv c s) (he : EvB c n s (isTrue e env (eval e env)) b) (ht : b = true → ∀ s', Ext s s' → Inv c s' → W c n (execs body env) (fun fl s2 => match fl with | .next => W c n (execs rest env) Q s2 | f => Q f s2) s')
    (hf : b = false → ∀ s', Ext s s' → Inv c s' → W c n (execs orelse env) (fun fl s2 => match fl with | .next => W c n (execs rest env) Q s2 | f => Q f s2) s') : W c n (execs (.If e body orelse pos :: rest) env) Q s :=
  wpAny_execs_cons (wpAny_If (wz (he s (.refl _) I) (fun u s1 e1 I1 r => by
    subst r
    cases u
    · exact hf rfl s1 e1 I1
    · exact ht rfl s1 e1 I1)))
theorem st_ret {e : Expr} (B : Bd c env X₀ own Z hA os s σ) (he : EvD c n X₀ s (eval e env) d) (hQ : ∀ v s', Rt c X₀ Z hA os d (.ret v) s' → Q (.ret v) s') : W c n (execs (.Return (some e) pos :: rest) env) Q s :=
  wpAny_execs_cons (wpAny_Return_some (wz (he s (.refl _) B.inv) (fun v s1 e1 I1 t1 => hQ _ _ ⟨I1, (B.ext e1 I1).chg, (B.ext e1 I1).os, t1⟩)))
theorem st_nil (h : Q .next s) : W c n (execs [] env) Q s := wpAny_execs_nil h
end
end Mine
end
section
open PySem PySem.W PySem.Calls PyProof.Rows
set_option linter.unusedVariables false
set_option maxRecDepth 100000
namespace Mine
set_option genSizeOf false
set_option genInjectivity false
set_option tactic.hygienic false

theorem bindL_miss {kindOf : Str → Option NameKind} : ∀ (bs : List (Str × Value)) (m : Str → Option Value) (x : Str), x ∉ bs.map (·.1) → bindL kindOf bs m x = m x
  | [], u1, u2, u3 => rfl
  | (n, v) :: r, m, x, h => by
    unfold bindL
    rw [bindL_miss r _ x fun q => h (List.mem_cons_of_mem _ q)]
    have : x ≠ n := fun e => h (e ▸ List.mem_cons_self)
    split
    · simp only [this, if_false]
    · rfl
theorem bindL_get {kindOf : Str → Option NameKind} : ∀ (bs : List (Str × Value)) (m : Str → Option Value) (x : Str) (v : Value), (bs.map (·.1)).Nodup → bs.lookup x = some v → kindOf x = some .local → bindL kindOf bs m x = some v
  | [], u1, u2, u3, u4, hl, u5 => by cases hl
  | (n, u) :: r, m, x, v, hn, hl, hk => by
    unfold bindL
    rw [List.map_cons, List.nodup_cons] at hn
    rw [List.lookup_cons] at hl
    by_cases e : x = n
    · subst e
      rw [beq_self_eq_true] at hl
      cases hl
      rw [bindL_miss r _ x hn.1, if_pos hk]
      simp
    · rw [beq_eq_false_iff_ne.mpr e] at hl
      exact bindL_get r _ x v hn.2 hl hk
theorem bindC_miss {kindOf : Str → Option NameKind} : ∀ (bs : List (Str × Value)) (m : Str → Option Value) (x : Str), x ∉ bs.map (·.1) → bindC kindOf bs m x = m x
  | [], u1, u2, u3 => rfl
  | (n, v) :: r, m, x, h => by
    unfold bindC
    rw [bindC_miss r _ x fun q => h (List.mem_cons_of_mem _ q)]
    have : x ≠ n := fun e => h (e ▸ List.mem_cons_self)
    split
    · rfl
    · simp only [this, if_false]
theorem bindC_get {kindOf : Str → Option NameKind} : ∀ (bs : List (Str × Value)) (m : Str → Option Value) (x : Str) (v : Value), (bs.map (·.1)).Nodup → bs.lookup x = some v → kindOf x = some .cell → bindC kindOf bs m x = some v
  | [], u1, u2, u3, u4, hl, u5 => by cases hl
  | (n, u) :: r, m, x, v, hn, hl, hk => by
    unfold bindC
    rw [List.map_cons, List.nodup_cons] at hn
    rw [List.lookup_cons] at hl
    by_cases e : x = n
    · subst e
      rw [beq_self_eq_true] at hl
      cases hl
      rw [bindC_miss r _ x hn.1, if_neg (by rw [hk]; intro q; cases q)]
      simp
    · rw [beq_eq_false_iff_ne.mpr e] at hl
      exact bindC_get r _ x v hn.2 hl hk

theorem TrL.length {h : Heap} {X : Addr → Prop} : ∀ {ds : List D} {vs : List Value}, TrL h X ds vs → vs.length = ds.length
  | [], u1, e => by rw [show _ = [] from e]; rfl
  | u1 :: u2, u3, zp => by obtain ⟨v, r, e, _, t⟩ := zp; rw [e, List.length_cons, List.length_cons, t.length]
theorem TrL.one {h : Heap} {X : Addr → Prop} {d : D} {vs : List Value} (x : TrL h X [d] vs) : ∃ v, vs = [v] ∧ Tr h X d v := by
  obtain ⟨v, r, e, t, q⟩ := x
  have q : r = [] := q
  exact ⟨v, by rw [e, q], t⟩
theorem TrL.pair {h : Heap} {X : Addr → Prop} {a b : Int} {us : Array Value} (x : TrL h X [.int a, .int b] us.toList) : ∃ t u, us = #[.int a t, .int b u] := by
  obtain ⟨v, r, e, h1, y⟩ := x
  obtain ⟨t, h1⟩ := h1
  obtain ⟨w, e2, h2⟩ := TrL.one y
  obtain ⟨u, h2⟩ := h2
  exact ⟨t, u, Array.toList_inj.mp (by rw [e, e2, h1, h2])⟩
theorem lt5 {P : Nat → Prop} (h0 : P 0) (h1 : P 1) (h2 : P 2) (h3 : P 3) (h4 : P 4) (j : Nat) (h : j < 5) : P j := by
  have : j = 0 ∨ j = 1 ∨ j = 2 ∨ j = 3 ∨ j = 4 := by omega
  rcases this with e | e | e | e | e <;> rw [e] <;> assumption
theorem TrL.lookup {h : Heap} {X : Addr → Prop} : ∀ {ns : List Str} {ds : List D} {vs : List Value} {x : Str} {lv : LV}, TrL h X ds vs → (ns.zip (ds.map LV.tr)).lookup x = some lv → ∃ d v, lv = .tr d ∧ (ns.zip vs).lookup x = some v ∧ Tr h X d v
  | [], ds, vs, x, lv, u1, e => by simp at e
  | n :: ns, [], vs, x, lv, u1, e => by simp at e
  | n :: ns, d :: ds, vs, x, lv, zp, e => by
    obtain ⟨v, r, ev, t, ts⟩ := zp
    subst ev
    simp only [List.map_cons, List.zip_cons_cons, List.lookup_cons] at e ⊢
    cases q : (x == n) with
    | true => rw [q] at e; cases e; exact ⟨d, v, rfl, rfl, t⟩
    | false => rw [q] at e; exact ts.lookup e
theorem zip_names {ns : List Str} {vs : List Value} (h : vs.length = ns.length) : (ns.zip vs).map (·.1) = ns := by
  rw [List.map_fst_zip]; omega

noncomputable def Fn (c : Cx) (n : Nat) (f : Value) (ds : List D) (d : D) : Prop :=
  ∀ (X : Addr → Prop) (s : Shared) (vs : List Value), Inv c s → (∀ a, X a → (s.heap.get? a).isSome = true) → TrL s.heap X ds vs → W c n (call f vs) (fun v s' => Ez c s s' (Tr s'.heap X d v)) s
theorem Fn.weak {c : Cx} {n m : Nat} {f : Value} {ds : List D} {d : D} (x : Fn c m f ds d) (h : n ≤ m) : Fn c n f ds d := fun X s vs I hX t =>
  wp_weak (A' := AL m) rfl (by show 320 + 20 * n ≤ 320 + 20 * m; omega) (by show 200 + 200 * n ≤ 200 + 200 * m; omega) rfl rfl (x X s vs I hX t)

theorem len1 {α : Type} {vs : List α} (h : vs.length = 1) : ∃ a, vs = [a] := List.length_eq_one_iff.mp h
theorem lenS {α : Type} {vs : List α} {n : Nat} (h : vs.length = n + 1) : ∃ a r, vs = a :: r ∧ r.length = n := by
  cases vs with
  | nil => cases h
  | cons a r => exact ⟨a, r, rfl, Nat.succ.inj h⟩
theorem len2 {α : Type} {vs : List α} (h : vs.length = 2) : ∃ a b, vs = [a, b] := by
  obtain ⟨a, r, rfl, q⟩ := lenS h
  obtain ⟨b, rfl⟩ := len1 q
  exact ⟨a, b, rfl⟩
theorem len3 {α : Type} {vs : List α} (h : vs.length = 3) : ∃ a b d, vs = [a, b, d] := by
  obtain ⟨a, r, rfl, q⟩ := lenS h
  obtain ⟨b, d, rfl⟩ := len2 q
  exact ⟨a, b, d, rfl⟩
theorem len4 {α : Type} {vs : List α} (h : vs.length = 4) : ∃ a b d e, vs = [a, b, d, e] := by
  obtain ⟨a, r, rfl, q⟩ := lenS h
  obtain ⟨b, d, e, rfl⟩ := len3 q
  exact ⟨a, b, d, e, rfl⟩
structure FnRec.Ok (f : FnRec) (names : List Str) : Prop where
  mem : f ∈ FNS
  cl : f.cl = []
  bind : ∀ kV doc pm an ct (vs : List Value), vs.length = names.length → bindArgs (f.data kV doc pm an ct) ⟨vs, []⟩ = pure (names.zip vs)
  kinds : (names.all fun y => isLC ((scOf f.st).names.lookup y)) = true
  nodup : names.Nodup
  cnodup : ((cellsFrom 0 (scOf f.st).names []).map (·.1)).Nodup
  celled : ((scOf f.st).names.all fun y => !(y.2 == .cell) || ((cellsFrom 0 (scOf f.st).names []).lookup y.1).isSome) = true
  co : (scOf f.st).isCoroutine = false
  gen : (scOf f.st).isGenerator = false
  fun_ : (scOf f.st).kind = .function

theorem lookup_isSome_names {α β : Type} : ∀ {l : List (Str × α)} {l' : List (Str × β)}, l.map (·.1) = l'.map (·.1) → ∀ x, (l.lookup x).isSome = (l'.lookup x).isSome
  | [], [], u1, u2 => rfl
  | (a, u) :: r, (b, v) :: r', e, x => by
    simp only [List.map_cons, List.cons.injEq] at e
    obtain ⟨rfl, e⟩ := e
    rw [List.lookup_cons, List.lookup_cons]
    cases (x == a)
    · exact lookup_isSome_names e x
    · rfl
theorem cells_isSome (names : List (Str × NameKind)) (m : Nat) (x : Str) : ((cellsFrom m names []).lookup x).isSome = ((cellsFrom 0 names []).lookup x).isSome :=
  lookup_isSome_names (cellsFrom_names names m 0 [] [] rfl) x

theorem Fn.intro {c : Cx} {n : Nat} {f : FnRec} {names : List Str} {ds : List D} {d : D} (O : f.Ok names) (hl : names.length = ds.length) (hn : n ≤ 20)
    (body : ∀ (X₀ own : Addr → Prop) (s₀ s : Shared) (L : Addr) (cells : List (Str × Addr)), cells = cellsFrom (L + 1) (scOf f.st).names [] → Bd c (f.env L cells) X₀ own (fun uu => False) s₀.heap s₀.os s (names.zip (ds.map LV.tr)) →
      W c (n + 1) (execs (bodyOf f.st) (f.env L cells)) (Rt c X₀ (fun uu => False) s₀.heap s₀.os d) s) : Fn c n (.ref f.a) ds d := by
  intro X s vs I hX t
  obtain ⟨o, kV, doc, pm, an, ct, h1, h2, h3, oc, cvs, ctk, h4, h5, h6, h7⟩ := I.fn f O.mem
  have hlen : vs.length = names.length := by rw [t.length, hl]
  have zn := zip_names hlen
  refine wpAny_call ?_
  refine codeAny_call_cells (fd := f.data kV doc pm an ct) (body := bodyOf f.st) (binds := names.zip vs) (by show 320 + 20 * n < 1000; omega) h1 h3 I.lim ⟨f.cd, oc, cvs, ctk, rfl, h4, h6, h7⟩ rfl (O.bind kV doc pm an ct vs hlen) O.cl ?_ ?_ O.co O.gen O.fun_
  · intro y hy
    have hm : y.1 ∈ names := zn ▸ List.mem_map_of_mem hy
    have hk := List.all_eq_true.mp O.kinds y.1 hm
    rcases isLC_or hk with e | e
    · exact .inl e
    · refine .inr ⟨e, ?_⟩
      have := List.all_eq_true.mp O.celled (y.1, .cell) (mem_of_lookup e)
      rw [show (!((y.1, NameKind.cell).2 == NameKind.cell)) = false from rfl, Bool.false_or] at this
      exact (cells_isSome _ _ _).trans this
  · intro s₁ IC
    obtain ⟨h', tk, rfl⟩ := IC.toInCall.same
    have kp := IC.toInCall.keep
    refine wpAny_mono (wp_weak (A' := AL (n + 1)) rfl (by show 320 + 20 * n + 1 ≤ 320 + 20 * (n + 1); omega) (by show 200 + 200 * n + 3 ≤ 200 + 200 * (n + 1); omega) rfl rfl
      (body X (fun a => a = s.heap.objs.size ∨ ∃ x, (x, a) ∈ cellsFrom (s.heap.objs.size + 1) (scOf f.st).names []) s _ s.heap.objs.size _ rfl ?_)) (fun fl s' zp => by obtain ⟨b1, b2, b3, b4⟩ := zp; exact ⟨⟨b2.keep, b3⟩, b1, b4⟩) (fun uu uu z => z.elim)
    have K' : Keep s.heap h' := Keep.full kp
    have fresh : ∀ a, (a = s.heap.objs.size ∨ ∃ x, (x, a) ∈ cellsFrom (s.heap.objs.size + 1) (scOf f.st).names []) → @LE.le Nat _ s.heap.objs.size a := by
      rintro a (rfl | ⟨x, hx⟩)
      · exact Nat.le_refl _
      · exact Nat.le_of_lt (IC.above x a hx)
    have none_ : ∀ a, @LE.le Nat _ s.heap.objs.size a → s.heap.get? a = none := fun a ha => by
      cases q : s.heap.get? a with
      | none => rfl
      | some o => exact absurd (Heap.lt_size q) (Nat.not_lt.mpr ha)
    have cnd : ((cellsFrom (s.heap.objs.size + 1) (scOf f.st).names []).map (·.1)).Nodup := cellsFrom_names (scOf f.st).names 0 (s.heap.objs.size + 1) [] [] rfl ▸ O.cnodup
    have cellAt : ∀ x a, (x, a) ∈ cellsFrom (s.heap.objs.size + 1) (scOf f.st).names [] → (h'.get? a).isSome = true := fun x a hx => by
      obtain ⟨o, ho, _⟩ := IC.cell x a (lookup_of_mem_nodup cnd hx)
      rw [show (h'.get? a) = some o from ho]; rfl
    exact {
      inv := I.keep K' I.bare
      os := rfl
      chg := .of K'
      mine := fun a ha => .inr (none_ a (fresh a ha))
      ex := fun a ha => by
        rcases ha with ha | rfl | ⟨x, hx⟩
        · exact K'.there (hX a ha)
        · obtain ⟨o, _, _, ho, _⟩ := IC.toInCall.ns
          rw [show (h'.get? s.heap.objs.size) = some o from ho]; rfl
        · exact cellAt x a hx
      far := fun a ha => Nat.lt_of_lt_of_le I.size (fresh a ha)
      dis := fun a ha q => by
        have := hX a q
        rw [none_ a (fresh a ha)] at this; cases this
      ownL := .inl rfl
      ownC := fun x a hx => .inr ⟨x, hx⟩
      dcs := fun x lv a q ha => by obtain ⟨d', v, e, _⟩ := t.lookup q; subst e; exact nomatch ha
      loc := by
        refine ⟨fun y => if isLC ((scOf f.st).names.lookup y) = true then (if (scOf f.st).names.lookup y = some .local then bindL (callEnvC (f.data kV doc pm an ct) s.heap.objs.size f.a).kindOf (names.zip vs) (fun uu => none) y else bindC (callEnvC (f.data kV doc pm an ct) s.heap.objs.size f.a).kindOf (names.zip vs) (fun uu => none) y) else none, ⟨⟨_, IC.toInCall.ns, fun y hy => ?_⟩, fun y a hy ha => ?_, IC.apart, fun y a hy => Nat.ne_of_lt (IC.above y a hy), fun y hy => ?_⟩, fun y lv hy => ?_⟩
        · have hy' : (scOf f.st).names.lookup y = some .local := hy
          simp only [hy', isLC_l, if_true]
        · have hy' : (scOf f.st).names.lookup y = some .cell := hy
          have ne : ¬ (some NameKind.cell = some NameKind.local) := by intro q; cases q
          simp only [hy', isLC_c, if_true, if_neg ne]
          exact IC.cell y a ha
        · have hy' : (scOf f.st).names.lookup y = some .cell := hy
          have := List.all_eq_true.mp O.celled (y, .cell) (mem_of_lookup hy')
          rw [show (!((y, NameKind.cell).2 == NameKind.cell)) = false from rfl, Bool.false_or] at this
          exact (cells_isSome _ _ _).trans this
        · obtain ⟨d', v, rfl, hv, td⟩ := t.lookup hy
          have hm : y ∈ names := by
            have := mem_of_lookup hv
            exact zn ▸ List.mem_map_of_mem (f := (·.1)) this
          have hk := List.all_eq_true.mp O.kinds y hm
          have nd : ((names.zip vs).map (·.1)).Nodup := by rw [zn]; exact O.nodup
          refine ⟨v, ?_, ?_⟩
          · simp only [hk, if_true]
            rcases isLC_or hk with e | e
            · rw [if_pos e]; exact bindL_get _ _ _ _ nd hv e
            · rw [if_neg (by rw [e]; intro q; cases q)]; exact bindC_get _ _ _ _ nd hv e
          · refine Tr.mv (h := s.heap) (X := X) ⟨fun a o uu e c => K'.get e c, fun a na sa q => ?_⟩ d' v td
            rcases q with q | q
            · exact na q
            · rw [none_ a (fresh a q)] at sa; cases sa }
end Mine
end
section
open PySem PySem.W PySem.Calls PyProof.Rows
set_option linter.unusedVariables false
set_option maxRecDepth 100000
namespace Mine
set_option genSizeOf false
set_option genInjectivity false
set_option tactic.hygienic false

noncomputable def Asg (env : Env) (target : Expr) (d : D) (δ : List (Str × LV)) : Prop :=
  ∀ (c : Cx) (n : Nat) (X₀ own Z : Addr → Prop) (hA : Heap) (os : OsState) (s : Shared) (σ : List (Str × LV)) (v : Value) (Q : Unit → Shared → Prop),
    Bd c env X₀ own Z hA os s σ → Tr s.heap (fun a => X₀ a ∨ own a) d v → (∀ s', Bd c env X₀ own Z hA os s' (δ ++ σ) → Q () s') → W c n (assign target env v) Q s
theorem asg_name {env : Env} {x : Str} {pos : Pos} {d : D} (hk : autoParam (env.scope.kind = .function) tacR) (hx : autoParam (isLC (env.kindOf x) = true) tacR) : Asg env (.Name x pos) d [(x, .tr d)] :=
  fun c n X₀ own Z hA os s σ v Q B t h => wpAny_assign_Name (st_name (lv := .tr d) B hk hx t h)
noncomputable def namesOf : List Expr → Option (List Str)
  | [] => some []
  | .Name x _ :: r => (namesOf r).map (x :: ·)
  | _ => none
theorem namesOf_cons {e : Expr} {r : List Expr} {xs : List Str} (h : namesOf (e :: r) = some xs) : ∃ x p ys, e = .Name x p ∧ namesOf r = some ys ∧ xs = x :: ys := by
  cases e with
  | Name x p =>
    obtain ⟨ys, hy, rfl⟩ := Option.map_eq_some_iff.mp h
    exact ⟨x, p, ys, rfl, hy, rfl⟩
  | _ => exact nsome h
theorem assignEach_names {env : Env} : ∀ {es : List Expr} {xs : List Str}, namesOf es = some xs → (assignEach es env).length = xs.length ∧ (assignEach es env).findIdx? (·.1) = none
  | [], xs, h => by cases h; exact ⟨rfl, rfl⟩
  | e :: r, xs, h => by
    obtain ⟨x, p, ys, rfl, hy, rfl⟩ := namesOf_cons h
    obtain ⟨a, b⟩ := assignEach_names (env := env) hy
    have e : assignEach (.Name x p :: r) env = (false, assign (.Name x p) env) :: assignEach r env := rfl
    rw [e]
    exact ⟨by rw [List.length_cons, List.length_cons, a], by rw [List.findIdx?_cons, b]; rfl⟩
theorem asg_order {env : Env} (hk : env.scope.kind = .function) (c : Cx) (n : Nat) (X₀ own Z : Addr → Prop) (hA : Heap) (os : OsState) (Q : Unit → Shared → Prop) : ∀ {es : List Expr} {xs : List Str} {ds : List D} (s : Shared) (σ : List (Str × LV)) (vs : List Value),
    namesOf es = some xs → xs.length = ds.length → (xs.all fun x => isLC (env.kindOf x)) = true → Bd c env X₀ own Z hA os s σ → TrL s.heap (fun a => X₀ a ∨ own a) ds vs →
    (∀ s', Bd c env X₀ own Z hA os s' ((xs.zip (ds.map LV.tr)).reverse ++ σ) → Q () s') → W c n (assignInOrder ((assignEach es env).map (·.2)) vs) Q s
  | [], xs, ds, s, σ, vs, h, hl, hx, B, t, k => by
    cases h
    cases ds with
    | cons _ _ => cases hl
    | nil =>
      have : vs = [] := t
      subst this
      exact wpAny_assignInOrder_none (k s B)
  | e :: r, xs, ds, s, σ, vs, h, hl, hx, B, t, k => by
    obtain ⟨x, p, ys, rfl, hy, rfl⟩ := namesOf_cons h
    cases ds with
    | nil => cases hl
    | cons d ds =>
      obtain ⟨v, us, rfl, t1, t2⟩ := t
      have hx' := (Bool.and_eq_true_iff.mp (List.all_cons ▸ hx))
      have e : assignEach (.Name x p :: r) env = (false, assign (.Name x p) env) :: assignEach r env := rfl
      rw [e, List.map_cons]
      refine wpAny_assignInOrder_more (wpAny_assign_Name ?_)
      refine st_name (lv := .tr d) B.anew hk hx'.1 t1 fun s' B' => ?_
      refine asg_order hk c n X₀ own Z hA os Q s' ((x, .tr d) :: σ) us hy (by simpa using hl) hx'.2 (B.back B') (TrL.mv (.kp B'.chg fun uu q => .inr q) ds us t2) fun s'' B'' => k s'' ?_
      simpa [List.map_cons, List.zip_cons_cons, List.reverse_cons, List.append_assoc] using B''
theorem ext_full {s : Shared} {h' : Heap} {t : Tok} (he : Heap.ExtBut s.heap.objs.size s.heap h') : Ext s { s with heap := h', toks := t } :=
  ⟨Keep.full fun b o e => he b o (Nat.ne_of_lt (Heap.lt_size e)) e, rfl⟩
theorem asg_tuple {env : Env} {es : List Expr} {xs : List Str} {ds : List D} {k : Nat} {pos : Pos} (h : namesOf es = some xs) (hl : xs.length = ds.length) (hx : (xs.all fun x => isLC (env.kindOf x)) = true) (hk : autoParam (env.scope.kind = .function) tacR) :
    Asg env (.Tuple es k pos) (.tup ds) ((xs.zip (ds.map LV.tr)).reverse) := fun c n X₀ own Z hA os s σ v Q B t hq => by
  obtain ⟨a, vs, rfl, na, ht, tl⟩ := t
  obtain ⟨e1, e2⟩ := assignEach_names (env := env) h
  refine assign_Tuple_tuple (A := AL n) rfl ht.is (by rw [e1, hl, ← tl.length, Array.length_toList]) e2 fun h' he => ?_
  have E := ext_full (s := s) (t := s.toks) he
  exact asg_order hk c n X₀ own Z hA os Q _ σ _ h hl hx (B.ext E (B.inv.keep E.keep B.inv.bare)) (tl.ext E) hq

noncomputable def isTupE : Expr → Bool
  | .Tuple .. => true
  | _ => false
structure IterOk (c : Cx) (n : Nat) (it : Addr) (I : Addr → Prop) (J : (Addr → Prop) → List D → Shared → Prop) (tp : Bool := false) : Prop where
  far : ∀ a, I a → @LT.lt Nat _ 256 a
  next : ∀ (X : Addr → Prop) (d : D) (rest : List D) (s : Shared) (target : Expr), (∀ a, I a → X a) → (∀ a, X a → (s.heap.get? a).isSome = true) → (tp = true → isTupE target = true) → J X (d :: rest) s → Inv c s → W c n (pyNext (.ref it)) (fun r s1 => ∃ v, r = some v ∧
    W c n (letOwnedTupleGo target (.ref it) v) (fun uu s2 => Inv c s2 ∧ s2.os = s.os ∧ Kp I s.heap s2.heap ∧ (∀ a, I a → (s2.heap.get? a).isSome = true) ∧ J X rest s2 ∧ Tr s2.heap X d v) s1) s
  stop : ∀ (X : Addr → Prop) (s : Shared), J X [] s → Inv c s → W c n (pyNext (.ref it)) (fun r s1 => r = none ∧ Inv c s1 ∧ s1.os = s.os ∧ Kp I s.heap s1.heap) s
  keep : ∀ (X X' : Addr → Prop) (rest : List D) (s s' : Shared), J X rest s → Mv s.heap s'.heap X X' → (∀ a o, I a → s.heap.get? a = some o → o.cls ≠ .none → s'.heap.get? a = some o) → J X' rest s'

noncomputable def EvI (c : Cx) (n : Nat) (X : Addr → Prop) (s₀ : Shared) (iter : Sem Value) (ds : List D) (tp : Bool := false) : Prop :=
  ∀ s, Ext s₀ s → Inv c s → W c n iter (fun x s1 => W c n (pyIter x) (fun itv s2 => Ez c s s2 (∃ it I J, itv = .ref it ∧ (∀ a, I a → s₀.heap.get? a = none ∧ (s2.heap.get? a).isSome = true) ∧ IterOk c n it I J tp ∧ J (fun a => X a ∨ I a) ds s2)) s1) s

section
variable {c : Cx} {n : Nat} {env : Env} {X X₀ own Z : Addr → Prop} {hA : Heap} {os : OsState} {s s' : Shared} {σ σ' : List (Str × LV)} {Q : Flow → Shared → Prop} {rest body : List Stmt} {pos : Pos} {iter target : Expr}
theorem wpNoE {α : Type} {M : Model} {A : Around} {t : Sem α} {Q : α → Shared → Prop} {E : Value → Shared → Prop} {s : Shared} (h : wpAny M A t Q NoE s) : wpAny M A t Q E s := wpAny_mono h (fun uu uu z => z) fun uu uu z => z.elim

theorem kp_none {Z : Addr → Prop} {h h' : Heap} {a : Addr} (k : Kp Z h h') (e : h'.get? a = none) : Z a ∨ h.get? a = none := by
  cases q : h.get? a with
  | none => exact .inr rfl
  | some o =>
    rcases k a o q with z | z | ⟨_, _, _, _, z⟩
    · exact .inl z
    · rw [e] at z; cases z
    · rw [e] at z; cases z
theorem Bd.kpI {X₁ X₂ I : Addr → Prop} {s1 : Shared} (b : Bd c env X₁ own Z hA os s σ) (k : Kp I s.heap s1.heap) (hI : ∀ a, I a → X₁ a ∧ Z a) (Iv : Inv c s1) (ho : s1.os = s.os)
    (h2 : ∀ a, X₂ a → X₁ a) (h3 : ∀ a, X₂ a → I a → (s1.heap.get? a).isSome = true) : Bd c env X₂ own Z hA os s1 σ where
  inv := Iv
  os := ho.trans b.os
  chg := b.chg.trans k fun a h => .inl (hI a h).2
  mine := b.mine
  ex := fun a h => by
    by_cases q : I a
    · rcases h with h | h
      · exact h3 a h q
      · exact absurd (hI a q).1 (b.dis a h)
    · exact k.there (b.ex a (h.imp (h2 a) id)) q
  far := b.far
  dis := fun a h q => b.dis a h (h2 a q)
  ownL := b.ownL
  ownC := b.ownC
  dcs := b.dcs
  loc := by
    obtain ⟨vm, F, g⟩ := b.loc
    have no : ∀ a, own a → ¬ I a := fun a h q => b.dis a h (hI a q).1
    refine ⟨vm, F.kp k (no _ b.ownL) fun x a hx => no a (b.ownC x a hx), fun y lv q => ?_⟩
    obtain ⟨v, p1, p2⟩ := g y lv q
    refine ⟨v, p1, LV.ok.mv ⟨fun a o na e hc => k.get e (fun z => na (.inl (hI a z).1)) hc, fun a na uu z => na (z.imp (h2 a) id)⟩ (fun a o uu ha e hc => k.get e (no a ha) hc) (fun uu z => z) p2⟩
theorem st_forG {ι : Type} {ds : List D} {tp : Bool} (own' : ι → Addr → Prop) (σ' : ι → List (Str × LV)) (P : List D → ι → Prop) (x0 : ι) (RD : D → Prop)
    (B : Bd c env X₀ own Z hA os s σ) (hi : EvI c n (fun a => X₀ a ∨ own a) s (eval iter env) ds tp) (hP : P ds x0) (h0 : own' x0 = own) (hσ : ∀ p ∈ σ' x0, σ.lookup p.1 = some p.2)
    (turn : ∀ (Q' : Flow → Shared → Prop) d r x X₁ hB s, (∀ x' s3, P r x' → Bd c env X₁ (own' x') (own' x) hB os s3 (σ' x') → Q' .next s3) → (∀ d' v s3, RD d' → Rt c X₁ (own' x) hB os d' (.ret v) s3 → Q' (.ret v) s3) →
      P (d :: r) x → Bd c env X₁ (own' x) (own' x) hB os s (σ' x) → ∀ v, Tr s.heap (fun a => X₁ a ∨ own' x a) d v → W c n (assign target env v) (fun uu s2 => W c n (execs body env) Q' s2) s)
    (done : ∀ x s', P [] x → Bd c env X₀ (own' x) Z hA os s' (σ' x) → W c n (execs rest env) Q s')
    (ret : ∀ d v s', RD d → Rt c X₀ Z hA os d (.ret v) s' → Q (.ret v) s')
    (hs : ∀ x, foldedSetIterable iter env x = pure x) (htp : tp = true → isTupE target = true) :
    W c n (execs (.For target iter body [] pos :: rest) env) Q s := by
  refine wpAny_execs_cons (wpAny_For (wpAny_mono (hi s (.refl s) B.inv) (fun xv s1 h1 => wpAny_mono h1 (fun itv s2 h2 => ?_) fun uu uu z => z) fun uu uu z => z) hs)
  obtain ⟨e2, I2, it, I, J, rfl, hI, K, hJ⟩ := h2
  have B2 := B.ext e2 I2
  have freshI : ∀ a, I a → ¬ (X₀ a ∨ own a) := fun a ha q => by
    have := B.ex a q
    rw [(hI a ha).1] at this; cases this
  -- the loop's own state
  have toA : ∀ a, own a ∨ I a → Z a ∨ hA.get? a = none := fun a h => h.elim (B.mine a) fun z => kp_none B.chg (hI a z).1
  let Inn (m : Nat) (s' : Shared) : Prop := ∃ x r, m = r.length ∧ P r x ∧ Bd c env (fun a => X₀ a ∨ I a) (own' x) (fun a => own a ∨ I a) s2.heap os s' (σ' x) ∧ J (fun a => (X₀ a ∨ I a) ∨ own' x a) r s'
  have home : ∀ x s', Bd c env X₀ (own' x) (fun a => own a ∨ I a) s2.heap os s' (σ' x) → Bd c env X₀ (own' x) Z hA os s' (σ' x) := fun x s' b =>
    { b with
      chg := B2.chg.trans b.chg toA
      mine := fun a h => (b.mine a h).elim (toA a) fun z => kp_none B2.chg z }
  refine codeAny_forLoop_any Inn (fun m s' hs' => ?_) ds.length ⟨x0, ds, rfl, hP, ?_, ?_⟩
  · obtain ⟨x, r, rfl, hp, b, hj⟩ := hs'
    cases r with
    | nil =>
      refine wpNoE (wpAny_mono (K.stop _ s' hj b.inv) (fun r' s3 zr => ?_) fun uu uu z => z)
      obtain ⟨e, I3, o3, k3⟩ := zr
      subst e
      refine wpNoE (wpAny_execs_nil ?_)
      have b3 := b.kpI (X₂ := X₀) k3 (fun a h => ⟨.inr h, .inr h⟩) I3 o3 (fun a h => .inl h) fun a h q => absurd (.inl h) (freshI a q)
      exact done x s3 hp (home x s3 b3)
    | cons d r =>
      refine wpNoE (wpAny_mono (K.next _ d r s' target (fun a h => .inl (.inr h)) b.ex htp hj b.inv) (fun r' s3 zp => ?_) fun uu uu z => z)
      obtain ⟨v, e, h3⟩ := zp
      subst e
      refine wpNoE (wpAny_mono h3 (fun uu s4 zp => ?_) fun uu uu z => z)
      obtain ⟨I4, o4, k4, ex4, j4, t4⟩ := zp
      have b4 := b.kpI (X₂ := fun a => X₀ a ∨ I a) k4 (fun a h => ⟨.inr h, .inr h⟩) I4 o4 (fun a h => h) fun a uu q => ex4 a q
      refine wpNoE (wpAny_mono (turn (fun fl s3 => match fl with
        | .next => ∃ x', P r x' ∧ Bd c env (fun a => X₀ a ∨ I a) (own' x') (own' x) s4.heap os s3 (σ' x')
        | .ret v => ∃ d', RD d' ∧ Rt c (fun a => X₀ a ∨ I a) (own' x) s4.heap os d' (.ret v) s3
        | _ => False) d r x _ _ s4 (fun x' s3 q1 q2 => ⟨x', q1, q2⟩) (fun d' v s3 q1 q2 => ⟨d', q1, q2⟩) hp b4.anew v t4) (fun uu s5 h5 => wpNoE (wpAny_mono h5 (fun fl s6 h6 => ?_) fun uu uu z => z)) fun uu uu z => z)
      have step : (∃ x', P r x' ∧ Bd c env (fun a => X₀ a ∨ I a) (own' x') (own' x) s4.heap os s6 (σ' x')) → ∃ m', m' < (d :: r).length ∧ Inn m' s6 := fun zp => by
        obtain ⟨x', hp', b6⟩ := zp
        refine ⟨r.length, Nat.lt_succ_self _, x', r, rfl, hp', b4.back b6, ?_⟩
        refine K.keep (fun a => (X₀ a ∨ I a) ∨ own' x a) _ r s4 s6 j4 ⟨fun a o na e hc => b6.chg.get e (fun z => na (.inr z)) hc, fun a na sa z => ?_⟩ fun a o ha e hc => b6.chg.get e (fun z => b4.dis a z (.inr ha)) hc
        · rcases z with z | z
          · exact na (.inl z)
          · rcases b6.mine a z with y | y
            · exact na (.inr y)
            · rw [y] at sa; cases sa
      cases fl with
      | next => exact step h6
      | cont => exact h6.elim
      | brk => exact h6.elim
      | ret u =>
        obtain ⟨d', hd, q1, q2, q3, q4⟩ := h6
        refine ret d' u s6 hd ⟨q1, ?_, q3, Tr.mv (.less fun a h => .inl h) d' u q4⟩
        exact (B2.chg.trans (b4.chg.trans q2 b4.mine) toA)
  · have b0 : Bd c env X₀ own Z hA os s2 (σ' x0) := B2.pick hσ
    rw [h0]
    refine { b0 with
      chg := .refl _ _
      mine := fun a h => .inl (.inl h)
      ex := fun a h => ?_
      dis := fun a h q => q.elim (b0.dis a h) fun z => freshI a z (.inr h)
      loc := ?_ }
    · rcases h with (h | h) | h
      · exact b0.ex a (.inl h)
      · exact (hI a h).2
      · exact b0.ex a (.inr h)
    · obtain ⟨vm, F, g⟩ := B.loc
      refine ⟨vm, F.kp (Z := fun uu => False) (.of e2.keep) id (fun uu uu uu q => q), fun y lv q => ?_⟩
      obtain ⟨v, p1, p2⟩ := g y lv (hσ (y, lv) (mem_of_lookup q))
      refine ⟨v, p1, LV.ok.mv ⟨fun a o uu e hc => e2.keep.get e hc, fun a na sa z => ?_⟩ (fun a o uu uu q1 q2 => e2.keep.get q1 q2) (fun uu z => z) p2⟩
      rcases z with (z | z) | z
      · exact na (.inl z)
      · rw [(hI a z).1] at sa; cases sa
      · exact na (.inr z)
  · rw [h0]
    have : (fun a => (X₀ a ∨ I a) ∨ own a) = fun a => (X₀ a ∨ own a) ∨ I a := by
      funext a
      exact propext ⟨fun h => h.elim (fun h => h.elim (fun h => .inl (.inl h)) .inr) fun h => .inl (.inr h), fun h => h.elim (fun h => h.elim (fun h => .inl (.inl h)) .inr) fun h => .inl (.inr h)⟩
    rw [this]; exact hJ
theorem st_for {ι : Type} {ds : List D} (own' : ι → Addr → Prop) (σ' : ι → List (Str × LV)) (P : List D → ι → Prop) (x0 : ι) (RD : D → Prop)
    (B : Bd c env X₀ own Z hA os s σ) (hi : EvI c n (fun a => X₀ a ∨ own a) s (eval iter env) ds) (hP : P ds x0) (h0 : own' x0 = own) (hσ : ∀ p ∈ σ' x0, σ.lookup p.1 = some p.2)
    (turn : ∀ (Q' : Flow → Shared → Prop) d r x X₁ hB s, (∀ x' s3, P r x' → Bd c env X₁ (own' x') (own' x) hB os s3 (σ' x') → Q' .next s3) → (∀ d' v s3, RD d' → Rt c X₁ (own' x) hB os d' (.ret v) s3 → Q' (.ret v) s3) →
      P (d :: r) x → Bd c env X₁ (own' x) (own' x) hB os s (σ' x) → ∀ v, Tr s.heap (fun a => X₁ a ∨ own' x a) d v → W c n (assign target env v) (fun uu s2 => W c n (execs body env) Q' s2) s)
    (done : ∀ x s', P [] x → Bd c env X₀ (own' x) Z hA os s' (σ' x) → W c n (execs rest env) Q s')
    (ret : ∀ d v s', RD d → Rt c X₀ Z hA os d (.ret v) s' → Q (.ret v) s')
    (hs : autoParam (∀ x, foldedSetIterable iter env x = pure x) tacI) :
    W c n (execs (.For target iter body [] pos :: rest) env) Q s :=
  st_forG own' σ' P x0 RD B hi hP h0 hσ turn done ret hs fun h => nomatch h
theorem st_forT {ι : Type} {ds : List D} (own' : ι → Addr → Prop) (σ' : ι → List (Str × LV)) (P : List D → ι → Prop) (x0 : ι) (RD : D → Prop)
    (B : Bd c env X₀ own Z hA os s σ) (hi : EvI c n (fun a => X₀ a ∨ own a) s (eval iter env) ds true) (hP : P ds x0) (h0 : own' x0 = own) (hσ : ∀ p ∈ σ' x0, σ.lookup p.1 = some p.2)
    (turn : ∀ (Q' : Flow → Shared → Prop) d r x X₁ hB s, (∀ x' s3, P r x' → Bd c env X₁ (own' x') (own' x) hB os s3 (σ' x') → Q' .next s3) → (∀ d' v s3, RD d' → Rt c X₁ (own' x) hB os d' (.ret v) s3 → Q' (.ret v) s3) →
      P (d :: r) x → Bd c env X₁ (own' x) (own' x) hB os s (σ' x) → ∀ v, Tr s.heap (fun a => X₁ a ∨ own' x a) d v → W c n (assign target env v) (fun uu s2 => W c n (execs body env) Q' s2) s)
    (done : ∀ x s', P [] x → Bd c env X₀ (own' x) Z hA os s' (σ' x) → W c n (execs rest env) Q s')
    (ret : ∀ d v s', RD d → Rt c X₀ Z hA os d (.ret v) s' → Q (.ret v) s')
    (hs : autoParam (∀ x, foldedSetIterable iter env x = pure x) tacI) (htp : autoParam (isTupE target = true) tacR) :
    W c n (execs (.For target iter body [] pos :: rest) env) Q s :=
  st_forG own' σ' P x0 RD B hi hP h0 hσ turn done ret hs fun uu => htp
end
end Mine
end
section
open PySem PySem.W PySem.Calls PyProof.Rows
set_option linter.unusedVariables false
set_option maxRecDepth 100000
namespace Mine
set_option genSizeOf false
set_option genInjectivity false
set_option tactic.hygienic false

theorem letGo_plain {M : Model} {A : Around} {E : Value → Shared → Prop} {Q : Unit → Shared → Prop} {s : Shared} {target : Expr} {it : Addr} {v : Value} {o : Obj} {T : String} (ho : s.heap.get? it = some o) (hc : o.cls = .type T)
    (hT : (["enumerate", "zip", "dict_itemiterator", "dict_reverseitemiterator", "odict_iterator", "itertools.zip_longest", "itertools.pairwise"] : List String).contains T = false) (h : Q () s) : wpAny M A (letOwnedTupleGo target (.ref it) v) Q E s := by
  have body : wpAny M A (do
      let (.ref r, .ref a) := (Value.ref it, v) | return
      let o ← load r
      match o.cls, o.data with
      | .type n, .fields vs =>
        if ["enumerate", "zip", "dict_itemiterator", "dict_reverseitemiterator", "odict_iterator", "itertools.zip_longest", "itertools.pairwise"].contains n && vs[0]? == some (rawInt a) then
          rule "for.unpacks-the-owned-tuple"
          updateField r 0 .none
      | _, _ => pure ()) Q E s := by
    cases v <;> first
      | exact wpAny_pure h
      | (refine wpAny_bind (wpAny_load ho ?_)
         obtain ⟨oc, od, oda, osl⟩ := o
         dsimp only at hc
         subst hc
         cases oda <;> first
           | exact wpAny_pure h
           | (dsimp only; rw [hT, Bool.false_and, if_neg (by decide)]; exact wpAny_pure h))
  cases target <;> first | exact wpAny_pure h | exact body

theorem listIter_kp {h h' : Heap} {it l : Addr} {i : Nat} (x : h.IsListIter it l i) (k : ∀ o, h.get? it = some o → o.cls ≠ .none → h'.get? it = some o) : h'.IsListIter it l i :=
  let ⟨o, ho, hc, hd⟩ := x; ⟨o, k o ho (by rw [hc]; intro e; cases e), hc, hd⟩
theorem rangeIter_cls {h : Heap} {it : Addr} {a b c : Int} (x : IsRangeIter h it a b c) : ∃ o, h.get? it = some o ∧ o.cls = .type "range_iterator" := ⟨_, x, rfl⟩

noncomputable def JList (it l : Addr) (X : Addr → Prop) (rest : List D) (s : Shared) : Prop := ∃ i vs, ¬ X l ∧ s.heap.IsListIter it l i ∧ IsL s.heap l vs ∧ TrL s.heap X rest (vs.toList.drop i)
theorem iter_list {c : Cx} {n : Nat} {it l : Addr} (far : @LT.lt Nat _ 256 it) : IterOk c n it (fun a => a = it) (JList it l) where
  far := fun a e => e ▸ far
  next := fun X d rest s target hX uu uu zp I => by
    obtain ⟨i, vs, nl, hit, hl, t⟩ := zp
    obtain ⟨v, r, e, t1, t2⟩ := t
    have hv : vs[i]? = some v := by
      have := congrArg (·[0]?) e
      simpa using this
    refine wpAny_pyNext_list_item hit hl.is hv fun h' hit' hs => ⟨v, rfl, ?_⟩
    have ne : l ≠ it := fun q => nl (hX l q)
    have kp : Kp (fun a => a = it) s.heap h' := .same hs rfl
    have mv : Mv s.heap h' X X := ⟨fun a o na e hc => kp.get e (fun q => na (hX a q)) hc, fun uu n uu => n⟩
    obtain ⟨o, ho, hc, hd⟩ := id hit'
    refine letGo_plain (T := "list_iterator") ho hc (by decide) ⟨I.kp kp (fun a e => e ▸ far) I.bare, rfl, kp, fun a e => by rw [e]; exact (by rw [show _ = some o from ho]; rfl), ⟨i + 1, vs, nl, hit', list_obj hl fun o e hc => kp.get e ne hc, ?_⟩, Tr.mv mv d v t1⟩
    have : vs.toList.drop (i + 1) = r := by
      have := congrArg List.tail e
      simpa [List.tail_drop] using this
    rw [this]; exact TrL.mv mv _ _ t2
  stop := fun X s zp I => by
    obtain ⟨i, vs, nl, hit, hl, t⟩ := zp
    have hv : vs[i]? = none := by
      have t' : vs.toList.drop i = [] := t
      have := congrArg List.length t'
      simp at this
      exact Array.getElem?_eq_none (by omega)
    refine wpAny_pyNext_list_end rfl hit hl.is hv fun h' hs => ?_
    have kp : Kp (fun a => a = it) s.heap h' := .but hs rfl
    exact ⟨rfl, I.kp kp (fun a e => e ▸ far) I.bare, rfl, kp⟩
  keep := fun X X' rest s s' zp mv ki => by
    obtain ⟨i, vs, nl, hit, hl, t⟩ := zp
    exact ⟨i, vs, mv.open_ l nl (list_some hl), listIter_kp hit fun o e hc => ki it o rfl e hc, list_obj hl fun o e hc => mv.get l o nl e hc, TrL.mv mv _ _ t⟩
theorem ei_list {c : Cx} {n : Nat} {X : Addr → Prop} {s₀ : Shared} {iter : Sem Value} {ds : List D} (h : EvD c n X s₀ iter (.lst ds)) : EvI c n X s₀ iter ds := fun s e I => by
  refine wz (h s e I) (fun x s1 e1 I1 t => ?_)
  obtain ⟨a, vs, rfl, na, hl, t⟩ := t
  refine wpAny_pyIter_list hl.is ?_
  have E : Ext s1 { s1 with heap := s1.heap.push { cls := .type "list_iterator", data := .fields #[.ref a, .int 0 0] } } := ⟨Keep.push _ _, rfl⟩
  refine ⟨e1.trans E, I1.keep E.keep I1.bare, s1.heap.objs.size, fun b => b = s1.heap.objs.size, JList s1.heap.objs.size a, rfl, fun b hb => ⟨?_, ?_⟩, iter_list I1.size, 0, vs, ?_, ?_, ?_, ?_⟩
  · subst hb
    cases q : s₀.heap.get? s1.heap.objs.size with
    | none => rfl
    | some o =>
      have := (e.trans e1).keep.there (b := s1.heap.objs.size) (by rw [q]; rfl)
      obtain ⟨o', ho'⟩ := Option.isSome_iff_exists.mp this
      exact absurd (Heap.lt_size ho') (Nat.lt_irrefl _)
  · subst hb
    rw [show _ = some _ from Heap.get?_push_size _ rfl]; rfl
  · rintro (q | q)
    · exact na q
    · subst q
      obtain ⟨o, ho⟩ := hl
      exact absurd (Heap.lt_size ho) (Nat.lt_irrefl _)
  · exact ⟨_, Heap.get?_push_size _ rfl, rfl, rfl⟩
  · exact list_obj hl fun o e hc => E.keep.get e hc
  · rw [List.drop_zero]
    refine TrL.mv ⟨fun b o uu e hc => E.keep.get e hc, fun b nb sb q => ?_⟩ _ _ t
    rcases q with q | q
    · exact nb q
    · subst q
      obtain ⟨o', ho'⟩ := Option.isSome_iff_exists.mp sb
      exact absurd (Heap.lt_size ho') (Nat.lt_irrefl _)

noncomputable def JRange (it : Addr) (X : Addr → Prop) (rest : List D) (s : Shared) : Prop := ∃ a k, IsRangeIter s.heap it a k 1 ∧ rest = (List.range k.toNat).map fun i : Nat => D.int (a + i)
theorem iter_range {c : Cx} {n : Nat} {it : Addr} (far : @LT.lt Nat _ 256 it) : IterOk c n it (fun a => a = it) (JRange it) where
  far := fun a e => e ▸ far
  next := fun X d rest s target hX uu uu zp I => by
    obtain ⟨a, k, hit, e⟩ := zp
    have hk : 0 < k := by
      apply Int.lt_of_not_ge
      intro q
      have : k.toNat = 0 := by omega
      rw [this] at e; cases e
    refine wpAny_pyNext_range_item hit hk fun h' hit' hs => ⟨_, rfl, ?_⟩
    have kp : Kp (fun a => a = it) s.heap h' := .same hs rfl
    obtain ⟨o, ho, hc⟩ := rangeIter_cls hit'
    obtain ⟨m, hm⟩ : ∃ m, k.toNat = m + 1 := ⟨k.toNat - 1, by omega⟩
    rw [hm, List.range_succ_eq_map, List.map_cons] at e
    injection e with e1 e2
    refine letGo_plain (T := "range_iterator") ho hc (by decide) ⟨I.kp (s' := { s with heap := h', toks := s.toks + 1 }) kp (fun a e => e ▸ far) I.bare, rfl, kp, fun b hb => by rw [hb]; exact (by rw [show _ = some o from ho]; rfl), ⟨a + 1, k - 1, hit', ?_⟩, ?_⟩
    · rw [e2, show (k - 1).toNat = m by omega, List.map_map]
      apply List.map_congr_left
      intro i _
      show D.int (a + ((i + 1 : Nat) : Int)) = D.int (a + 1 + (i : Int))
      congr 1; omega
    · rw [e1]
      exact ⟨_, by simp; rfl⟩
  stop := fun X s zp I => by
    obtain ⟨a, k, hit, e⟩ := zp
    have hk : k ≤ 0 := by
      apply Int.le_of_not_gt
      intro q
      have := congrArg List.length e
      simp at this
      omega
    refine wpAny_pyNext_range_end rfl hit hk fun h' hs => ?_
    have kp : Kp (fun a => a = it) s.heap h' := .but hs rfl
    exact ⟨rfl, I.kp kp (fun a e => e ▸ far) I.bare, rfl, kp⟩
  keep := fun X X' rest s s' zp mv ki => by obtain ⟨a, k, hit, e⟩ := zp; exact ⟨a, k, ki it _ rfl hit (by intro e; cases e), e⟩

section
variable {c : Cx} {n : Nat} {env : Env} {X X₀ own Z : Addr → Prop} {hA : Heap} {os : OsState} {s s' : Shared} {σ σ' : List (Str × LV)} {d : D} {ds : List D} {pos : Pos}
theorem evl_nil : EvL c n X s (spliced []) [] := fun s' e I => spliced_nil ⟨.refl _, I, rfl⟩
theorem evl_cons {t : Sem Value} {r : List (Bool × Sem Value)} (h1 : EvD c n X s t d) (h2 : EvL c n X s (spliced r) ds) : EvL c n X s (spliced ((false, t) :: r)) (d :: ds) := fun s' e I =>
  spliced_cons (wz (h1 s' e I) (fun v s1 e1 I1 t1 => wz (h2 s1 (e.trans e1) I1) (fun vs s2 e2 I2 t2 => ⟨e1.trans e2, I2, v, vs, rfl, t1.ext e2, t2⟩)))

theorem fn_obj (I : Inv c s) {f : FnRec} (hf : f ∈ FNS) : ∃ o fd, s.heap.get? f.a = some o ∧ o.data = .func fd := by
  obtain ⟨o, kV, doc, pm, an, ct, h1, h2, h3, _⟩ := I.fn f hf
  exact ⟨o, _, h1, h3⟩

theorem ev_call {x : Str} {p : Pos} {args : List Expr} {t : Sem Value} {r : List (Bool × Sem Value)} {f : FnRec} (hX : ∀ a, X a → (s.heap.get? a).isSome = true) (hf : EvV c n s (eval (.Name x p) env) (.ref f.a)) (hm : f ∈ FNS)
    (hF : Fn c n (.ref f.a) ds d) (hargs : backTo pos (starEach args env) = (false, t) :: r) (ha : EvL c n X s (spliced ((false, t) :: r)) ds) : EvD c n X s (eval (.Call (.Name x p) args [] pos) env) d := fun s' e I => by
  refine Call_Name hargs (wz (hf s' e I) (fun u s1 e1 I1 hu => ?_))
  subst hu
  have fin : ∀ vs s2, Ext s1 s2 → Inv c s2 → TrL s2.heap X ds vs → W c n (call (.ref f.a) vs) (fun v s3 => Ez c s' s3 (Tr s3.heap X d v)) s2 := fun vs s2 e2 I2 t2 =>
    wz (hF X s2 vs I2 (fun a h => ((e.trans e1).trans e2).keep.there (hX a h)) t2) (fun v s3 e3 I3 t3 => ⟨(e1.trans e2).trans e3, I3, t3⟩)
  obtain ⟨o, fd, ho, hd⟩ := fn_obj I1 hm
  refine callWith_function (o := o) (fd := fd) (evalArgs_plain (wz (ha s1 (e.trans e1) I1) (fun vs s2 e2 I2 t2 => ⟨⟨?_, hd⟩, ?_⟩)))
  · refine e2.keep.get ho ?_
    obtain ⟨o', _, _, _, _, _, g1, g2, _⟩ := I1.fn f hm
    rw [ho] at g1; cases g1
    rw [g2]; intro q; cases q
  · exact fin vs s2 e2 I2 t2

theorem TrL.get {h : Heap} {X : Addr → Prop} : ∀ {ds : List D} {vs : List Value} {j : Nat} {d : D}, TrL h X ds vs → ds[j]? = some d → ∃ v, vs[j]? = some v ∧ Tr h X d v
  | [], u1, j, d, u2, e => by simp at e
  | d' :: ds, vs, 0, d, x, q => by
    obtain ⟨v, r, e, t, _⟩ := x
    subst e; cases q; exact ⟨v, rfl, t⟩
  | d' :: ds, vs, j + 1, d, x, q => by
    obtain ⟨v, r, e, _, t⟩ := x
    subst e
    rw [List.getElem?_cons_succ] at q
    obtain ⟨u, a, b⟩ := t.get q
    exact ⟨u, by rw [List.getElem?_cons_succ]; exact a, b⟩
theorem ev_item_tup {value slice : Expr} {i : Int} {j : Nat} (h1 : EvD c n X s (eval value env) (.tup ds)) (h2 : EvD c n X s (eval slice env) (.int i)) (hlo : -(2 ^ 63) ≤ i) (hhi : i < 2 ^ 63) (hj : seqIndex? i ds.length = some j) (hd : ds[j]? = some d)
    (hs : autoParam (∀ t k u, subscripted slice false (.ref t) (.int k u) = operate [.ref t, .int k u] (getItem (.ref t) (.int k u))) tacW) : EvD c n X s (eval (.Subscript value slice pos) env) d := fun s' e I => by
  refine Subscript_ (wz (h1 s' e I) (fun v s1 e1 I1 t1 => wz (h2 s1 (e.trans e1) I1) (fun u s2 e2 I2 t2 => ?_)))
  obtain ⟨a, vs, rfl, na, ht, tl⟩ := t1.ext e2
  obtain ⟨tk, rfl⟩ := t2
  obtain ⟨w, hw, tw⟩ := tl.get hd
  refine item_tupleT (l := vs.toList) (j := j) (x := w) (by rw [Array.toArray_toList]; exact ht.is) hlo hhi (by rw [tl.length]; exact hj) hw ⟨e1.trans e2, I2, tw⟩ (hs a i tk)
theorem ev_item_lst {value slice : Expr} {i : Int} (h1 : EvD c n X s (eval value env) (.lst ds)) (h2 : EvD c n X s (eval slice env) (.int i)) (hlo : 0 ≤ i) (hhi : i < 2 ^ 63) (hd : ds[i.toNat]? = some d)
    (hs : autoParam (∀ t k u, subscripted slice false (.ref t) (.int k u) = operate [.ref t, .int k u] (getItem (.ref t) (.int k u))) tacW) : EvD c n X s (eval (.Subscript value slice pos) env) d := fun s' e I => by
  refine Subscript_ (wz (h1 s' e I) (fun v s1 e1 I1 t1 => wz (h2 s1 (e.trans e1) I1) (fun u s2 e2 I2 t2 => ?_)))
  obtain ⟨a, vs, rfl, na, ht, tl⟩ := t1.ext e2
  obtain ⟨tk, rfl⟩ := t2
  obtain ⟨w, hw, tw⟩ := tl.get hd
  exact tail_any ht.is.typeIs slot_list_getitem.lookup (wpAny_getItem_list ht.is hlo hhi (by simpa using hw) ⟨e1.trans e2, I2, tw⟩) (hs a i tk)

theorem CmpL.tr {h : Heap} {X : Addr → Prop} : ∀ {es : List (Int × Int)} {us : List Value}, CmpL h X es us → TrL h X (es.map prD) us
  | [], u1, e => e
  | p :: r, u1, zp => by
    obtain ⟨b, r', t, t', e, nb, hb, hr⟩ := zp
    subst e
    exact ⟨.ref b, r', rfl, ⟨b, _, rfl, nb, hb, .int p.1 t, [.int p.2 t'], rfl, ⟨t, rfl⟩, .int p.2 t', [], rfl, ⟨t', rfl⟩, rfl⟩, CmpL.tr hr⟩
theorem ev_sel {x : Str} {xp : Pos} {es : List (Int × Int)} (O : c.Ok) (h : EvD c n X s (eval (.Name x xp) env) (.cmp es)) : EvD c n X s (eval (.Attribute (.Name x xp) "comp_select_list" pos) env) (.lst (es.map prD)) := fun s' e I => by
  refine Attribute_name (wz (h s' e I) (fun v s1 e1 I1 t => ?_))
  obtain ⟨a, rfl, dx, l, vs, od, n1, n2, n3, hi, hdx, hc, hl, _, hls, hcl⟩ := t
  obtain ⟨cd, hcd, hdict⟩ := O.cls152
  have It : InstAt s1.heap a { cls := .ref 152, dict := some dx, data := .plain } 152 (some od) := ⟨hi, rfl, rfl, hdx⟩
  refine get_value (v := .ref l) I1.kin It O.ga152 ?_ rfl ⟨e1.trans (.toks _ _), I1.toks _, l, vs, rfl, n3, hls, ?_⟩
  · exact findObj_own (attr := none) (by unfold hasDictIn; rw [hcd]; exact hdict) O.sel152 rfl hl
  · exact CmpL.tr hcl
theorem use_tuple (xs : List Str) {es : List Expr} {k : Nat} {v : Value} {Q : Unit → Shared → Prop} (B : Bd c env X₀ own Z hA os s σ) (t : Tr s.heap (fun a => X₀ a ∨ own a) (.tup ds) v) (hq : ∀ s', Bd c env X₀ own Z hA os s' ((xs.zip (ds.map LV.tr)).reverse ++ σ) → Q () s')
    (h : autoParam (namesOf es = some xs) tacR) (hl : autoParam (xs.length = ds.length) tacR) (hx : autoParam ((xs.all fun x => isLC (env.kindOf x)) = true) tacR) (hk : autoParam (env.scope.kind = .function) tacR) : W c n (assign (.Tuple es k pos) env v) Q s :=
  asg_tuple h hl hx hk c n X₀ own Z hA os s σ v Q B t hq
theorem use_name {x : Str} {v : Value} {Q : Unit → Shared → Prop} (B : Bd c env X₀ own Z hA os s σ) (t : Tr s.heap (fun a => X₀ a ∨ own a) d v) (hq : ∀ s', Bd c env X₀ own Z hA os s' ((x, .tr d) :: σ) → Q () s')
    (hx : autoParam (isLC (env.kindOf x) = true) tacR) (hk : autoParam (env.scope.kind = .function) tacR) : W c n (assign (.Name x pos) env v) Q s :=
  asg_name hk hx c n X₀ own Z hA os s σ v Q B t hq
end
end Mine
end
section
open PySem PySem.W PySem.Calls PyProof.Rows
set_option linter.unusedVariables false
set_option maxRecDepth 100000
namespace Mine
set_option genSizeOf false
set_option genInjectivity false
set_option tactic.hygienic false

theorem call_attr {M : Model} {A : Around} {E : Value → Shared → Prop} {s : Shared} {env : Env} {o : Expr} {name : Str} {apos pos : Pos} {args : List Expr} {trees : List (Bool × Sem Value)} {Q : Value → Shared → Prop}
    (h : wpAny M A (eval o env) (fun ov s1 => wpAny M A (getMethod ov name (do return (← importBound o env).getD true)) (fun r s2 => wpAny M A (callWith pos r.1 r.2 trees []) Q E s2) E s1) E s)
    (htrees : backTo pos (starEach args env) = trees) (hform : methodCallForm (args.length + 0) trees [] = true) (hbase : autoParam (attributeBase o name env (eval o env) = eval o env) tacR) (hline : autoParam ((apos.endLine == pos.line) = true) tacR) :
    wpAny M A (eval (.Call (.Attribute o name apos) args [] pos) env) Q E s := by
  subst htrees
  rw [arm_eval_Call, hbase]
  refine wpAny_bind (wpAny_mono h (fun ov s₁ h₁ => ?_) fun uu uu e => e)
  refine wpAny_bind (wpAny_standAt ?_)
  have hpos : methodCallPos true o env apos pos = pure pos := by unfold methodCallPos; simp [hline]
  unfold methodCall
  have hform' : methodCallForm (args.length + ([] : List Keyword).length) (backTo pos (starEach args env)) (backToKw pos (keywordEach [] env)) = true := hform
  rw [hform']
  refine wpAny_bind (wpAny_holding ?_)
  refine wpAny_mono h₁ (fun r s₂ h₂ => ?_) fun uu uu e => e
  exact wpAny_bind (wpAny_of_eq hpos h₂)

section
variable {c : Cx} {n : Nat} {env : Env} {X X₀ own Z : Addr → Prop} {hA : Heap} {os : OsState} {s s' : Shared} {σ σ' : List (Str × LV)} {d : D} {ds : List D} {pos : Pos} {rest body : List Stmt} {Q : Flow → Shared → Prop}

theorem ev_compare {o : Expr} {apos : Pos} {args : List Expr} {t1 t2 : Sem Value} {es : List (Int × Int)} {d1 d2 : D} (O : c.Ok) (hX : ∀ a, X a → (s.heap.get? a).isSome = true) (ho : EvD c n X s (eval o env) (.cmp es))
    (hF : Fn c n (.ref 149) [.cmp es, d1, d2] d) (hargs : backTo pos (starEach args env) = [(false, t1), (false, t2)]) (h1 : EvD c n X s t1 d1) (h2 : EvD c n X s t2 d2) (hl : args.length + 0 < 30)
    (hbase : autoParam (attributeBase o "compare" env (eval o env) = eval o env) tacR) (hline : autoParam ((apos.endLine == pos.line) = true) tacR) :
    EvD c n X s (eval (.Call (.Attribute o "compare" apos) args [] pos) env) d := fun s' e I => by
  refine call_attr (wz (ho s' e I) (fun v s1 e1 I1 t => ?_)) hargs (by unfold methodCallForm; simp; omega) hbase hline
  obtain ⟨a, rfl, dx, l, vs, od, n1, n2, n3, hi, hdx, hc, hl, hcm, hls, hcl⟩ := id t
  have It : InstAt s1.heap a { cls := .ref 152, dict := some dx, data := .plain } 152 (some od) := ⟨hi, rfl, rfl, hdx⟩
  have hg := plainGet_of O.pg152
  refine method_fn (f := 149) I1.kin It hg.1 hg.2 O.cmp152 (beq_iff_eq.mp O.fn149) (by show (lookIn _ od).map _ = _; rw [hcm]; rfl) ?_
  obtain ⟨o', fd, ho', hd'⟩ := fn_obj I1 (f := R_compare) (inF 8 rfl)
  refine callWith_function (o := o') (fd := fd) (evalArgs_plain (wz (evl_cons h1 (evl_cons h2 evl_nil) s1 (e.trans e1) I1) (fun vs s2 e2 I2 t2 => ⟨⟨?_, hd'⟩, ?_⟩)))
  · refine e2.keep.get ho' ?_
    obtain ⟨o'', _, _, _, _, _, g1, g2, _⟩ := I1.fn R_compare (inF 8 rfl)
    rw [ho'] at g1; cases g1
    rw [g2]; intro q; cases q
  · exact wz (hF X s2 (.ref a :: vs) I2 (fun b h => ((e.trans e1).trans e2).keep.there (hX b h)) ⟨.ref a, vs, rfl, t.ext e2, t2⟩) (fun v s3 e3 I3 t3 => ⟨(e1.trans e2).trans e3, I3, t3⟩)

noncomputable def EvN (c : Cx) (n : Nat) (X : Addr → Prop) (s₀ : Shared) (t : Sem Value) (ds : List D) : Prop :=
  Ev c n s₀ t (fun s v => ∃ a vs, v = .ref a ∧ s₀.heap.get? a = none ∧ @LT.lt Nat _ 256 a ∧ IsL s.heap a vs ∧ TrL s.heap (fun b => X b ∨ b = a) ds vs.toList)
theorem size_none (h : Heap) : h.get? h.objs.size = none := by
  cases q : h.get? h.objs.size with
  | none => rfl
  | some o => exact absurd (Heap.lt_size q) (Nat.lt_irrefl _)
theorem ext_none {s s1 : Shared} (e : Ext s s1) {a : Addr} (h : s1.heap.get? a = none) : s.heap.get? a = none := by
  cases q : s.heap.get? a with
  | none => rfl
  | some o =>
    have := e.keep.there (b := a) (by rw [q]; rfl)
    rw [h] at this; cases this
theorem push_tr {h : Heap} {X : Addr → Prop} {o : Obj} {ds : List D} {vs : List Value} (t : TrL h X ds vs) : TrL (h.push o) (fun b => X b ∨ b = h.objs.size) ds vs :=
  TrL.mv ⟨fun a o' uu e uu => Heap.get?_push_of_some _ e, fun a na sa q => by
    rcases q with q | q
    · exact na q
    · subst q; rw [size_none] at sa; cases sa⟩ _ _ t
theorem ext_push (s : Shared) (o : Obj) : Ext s { s with heap := s.heap.push o } := ⟨Keep.push _ _, rfl⟩
theorem evn_list {elts : List Expr} {trees : List (Bool × Sem Value)} (h : EvL c n X s (spliced trees) ds) (ht : backTo pos (starEach elts env) = trees) (hsz : ds.length ≤ 1000) : EvN c n X s (eval (.List elts pos) env) ds := fun s' e I => by
  refine wpAny_List (ht ▸ wz (h s' e I) (fun vs s1 e1 I1 t1 => ⟨?_, e1.trans (ext_push _ _), I1.keep (Keep.push _ _) I1.bare, s1.heap.objs.size, vs.toArray, rfl, ext_none (e.trans e1) (size_none _), I1.size, ⟨0, Heap.get?_push_size _ rfl⟩, by rw [List.toList_toArray]; exact push_tr t1⟩))
  rw [t1.length]; show ds.length ≤ 2 ^ 24; omega
theorem EvN.tr {t : Sem Value} (h : EvN c n X s t ds) (hX : ∀ a, X a → (s.heap.get? a).isSome = true) : EvD c n X s t (.lst ds) := h.imp fun s' v uu uu zp => by
  obtain ⟨a, vs, e, fr, _, hl, t⟩ := zp
  exact ⟨a, vs, e, (fun q => by have := hX a q; rw [fr] at this; cases this), hl, TrL.mv (.less fun b q => .inl q) _ _ t⟩
theorem ev_tuple {elts : List Expr} {k : Nat} {trees : List (Bool × Sem Value)} (hX : ∀ a, X a → (s.heap.get? a).isSome = true) (h : EvL c n X s (spliced trees) ds) (ht : backTo pos (starEach elts env) = trees) (hsz : ds.length ≤ 1000) : EvD c n X s (eval (.Tuple elts k pos) env) (.tup ds) := fun s' e I => by
  refine wpAny_Tuple (ht ▸ wz (h s' e I) (fun vs s1 e1 I1 t1 => ⟨?_, e1.trans (ext_push _ _), I1.keep (Keep.push _ _) I1.bare, s1.heap.objs.size, vs.toArray, rfl, ?_, ⟨0, Heap.get?_push_size _ rfl⟩, by rw [List.toList_toArray]; exact TrL.ext t1 (ext_push _ _)⟩))
  · rw [t1.length]; show ds.length ≤ 2 ^ 24; omega
  · intro q
    have := hX _ q
    rw [ext_none (e.trans e1) (size_none _)] at this; cases this

theorem st_live {x : Str} {e : Expr} {p : Pos} (B : Bd c env X₀ own Z hA os s σ) (he : EvN c n (fun a => X₀ a ∨ own a) s (eval e env) ds)
    (h : ∀ r s', ¬ own r → ¬ X₀ r → Bd c env X₀ (fun a => own a ∨ a = r) Z hA os s' ((x, .ls r ds) :: σ) → W c n (execs rest env) Q s')
    (hk : autoParam (env.scope.kind = .function) tacR) (hx : autoParam (isLC (env.kindOf x) = true) tacR) (hs : autoParam (swapsWith e (some (.Name x p)) pos.line env = pure false) tacR) :
    W c n (execs (.Assign [.Name x p] e pos :: rest) env) Q s := by
  refine wpAny_execs_cons (wpAny_Assign_Name (wz (he s (.refl _) B.inv) (fun v s1 e1 I1 zr => ?_)) hs)
  obtain ⟨a, vs, ev, fr, far, hl, t⟩ := zr
  subst ev
  have no : ¬ (X₀ a ∨ own a) := fun q => by have := B.ex a q; rw [fr] at this; cases this
  have B1 := B.ext e1 I1
  have B2 : Bd c env X₀ (fun b => own b ∨ b = a) Z hA os s1 σ := { B1 with
    mine := fun b h => h.elim (B.mine b) fun q => q ▸ kp_none B.chg fr
    ex := fun b h => by
      rcases h with h | h | h
      · exact B1.ex b (.inl h)
      · exact B1.ex b (.inr h)
      · obtain ⟨k, ho⟩ := hl; rw [h, ho]; rfl
    far := fun b h => h.elim (B.far b) fun q => q ▸ far
    dis := fun b h => h.elim (B.dis b) fun q => q ▸ fun z => no (.inl z)
    ownL := .inl B.ownL
    ownC := fun y b hb => .inl (B.ownC y b hb)
    loc := by
      obtain ⟨vm, F, g⟩ := B.loc
      refine ⟨vm, F.kp (Z := fun uu => False) (.of e1.keep) id (fun uu uu uu q => q), fun y lv q => ?_⟩
      obtain ⟨u, p1, p2⟩ := g y lv q
      refine ⟨u, p1, LV.ok.mv ⟨fun b o uu eb hc => e1.keep.get eb hc, fun b nb sb q => ?_⟩ (fun b o uu uu q1 q2 => e1.keep.get q1 q2) (fun uu z => .inl z) p2⟩
      rcases q with q | q | q
      · exact nb (.inl q)
      · exact nb (.inr q)
      · rw [q, fr] at sb; cases sb }
  refine st_name (lv := .ls a ds) B2 hk hx ⟨rfl, .inr rfl, vs, hl, TrL.mv ⟨fun uu uu uu z uu => z, fun b nb uu q => ?_⟩ _ _ t⟩ (fun s2 B3 => h a s2 (fun q => no (.inr q)) (fun q => no (.inl q)) B3) ?_
  · rcases q with q | q | q
    · exact nb (.inl (.inl q))
    · exact nb (.inl (.inr q))
    · exact nb (.inr q)
  · intro b hb
    have hb : b = a := mem1 hb
    subst hb
    exact ⟨fun q => no (.inr (q ▸ B.ownL)), fun y cc hc q => no (.inr (q ▸ B.ownC y cc hc))⟩

theorem Bd.live {x : Str} {a : Addr} (B : Bd c env X₀ own Z hA os s σ) (h : σ.lookup x = some (.ls a ds)) : own a ∧ ∃ vs, IsL s.heap a vs ∧ TrL s.heap (fun b => X₀ b ∨ own b) ds vs.toList := by
  obtain ⟨vm, _, g⟩ := B.loc
  obtain ⟨v, _, _, p2, p3⟩ := g x _ h
  exact ⟨p2, p3⟩
theorem ev_freeze {x : Str} {a : Addr} {xp : Pos} (B : Bd c env X₀ own Z hA os s σ) (h : σ.lookup x = some (.ls a ds)) (hk : autoParam (env.scope.kind = .function) tacR) (hx : autoParam (isLC (env.kindOf x) = true) tacR) (hd : autoParam ((x == ("__debug__" : Str)) = false) tacD) :
    EvD c n X₀ s (eval (.Name x xp) env) (.lst ds) := (ev_live (n := n) (pos := xp) B h hk hx hd).imp fun s1 v E I e => by
  obtain ⟨o, vs, hl, t⟩ := (B.ext E I).live h
  exact ⟨a, vs, e, B.dis a o, hl, TrL.mv (.less fun b q => .inl q) _ _ t⟩
theorem call_len_l {a : Addr} {vs : Array Value} {Q : Value → Shared → Prop} (hl : IsL s.heap a vs) (hsz : vs.size ≤ 1000) (h : Q (.int vs.size (s.toks + 1)) { s with toks := s.toks + 1 + 1 }) : W c n (call (.builtin "len") [.ref a]) Q s :=
  call_len_list hl.is (by omega) h
end
end Mine
end
section
open PySem PySem.W PySem.Calls PyProof.Rows
set_option linter.unusedVariables false
set_option maxRecDepth 100000
namespace Mine
set_option genSizeOf false
set_option genInjectivity false
set_option tactic.hygienic false
section
variable {c : Cx} {n : Nat} {env : Env} {X X₀ own Z : Addr → Prop} {hA : Heap} {os : OsState} {s s' : Shared} {σ : List (Str × LV)} {d : D} {ds : List D} {pos : Pos} {rest body : List Stmt} {Q : Flow → Shared → Prop}

theorem ev_true {e : Expr} {b : Bool} (h : EvD c n X s (eval e env) (.bool b)) (he : autoParam (isTrue e env (eval e env) = (do let v ← eval e env; standAt e.pos; holding [v] (truthy v))) tacR) : EvB c n s (isTrue e env (eval e env)) b := fun s' k I =>
  wpAny_isTrue_value (wz (h s' k I) (fun v s1 e1 I1 r => by
    have r : v = .bool b := r
    subst r; exact wpAny_truthy_bool ⟨e1, I1, rfl⟩)) he
theorem ev_and {e1 e2 : Expr} {b1 b2 : Bool} {whole : Sem Value} (h1 : EvB c n s (isTrue e1 env (eval e1 env)) b1) (h2 : b1 = true → EvB c n s (isTrue e2 env (eval e2 env)) b2) : EvB c n s (isTrue (.BoolOp .And [e1, e2] pos) env whole) (b1 && b2) := fun s' k I => by
  refine wpAny_isTrue_BoolOp (wpAny_allTrue_And_cons (wz (h1 s' k I) (fun u s1 e1 I1 r => ?_)))
  subst r
  cases u with
  | false => exact ⟨e1, I1, rfl⟩
  | true =>
    refine wpAny_allTrue_And_cons (wz (h2 rfl s1 (k.trans e1) I1) (fun u s2 e2 I2 r => ?_))
    subst r
    cases u with
    | false => exact ⟨e1.trans e2, I2, rfl⟩
    | true => exact wpAny_allTrue_And_nil ⟨e1.trans e2, I2, rfl⟩
theorem ev_or {e1 e2 : Expr} {b1 b2 : Bool} {whole : Sem Value} (h1 : EvB c n s (isTrue e1 env (eval e1 env)) b1) (h2 : b1 = false → EvB c n s (isTrue e2 env (eval e2 env)) b2) : EvB c n s (isTrue (.BoolOp .Or [e1, e2] pos) env whole) (b1 || b2) := fun s' k I => by
  refine wpAny_isTrue_BoolOp (wpAny_allTrue_Or_cons (wz (h1 s' k I) (fun u s1 e1 I1 r => ?_)))
  subst r
  cases u with
  | true => exact ⟨e1, I1, rfl⟩
  | false =>
    refine wpAny_allTrue_Or_cons (wz (h2 rfl s1 (k.trans e1) I1) (fun u s2 e2 I2 r => ?_))
    subst r
    cases u with
    | true => exact ⟨e1.trans e2, I2, rfl⟩
    | false => exact wpAny_allTrue_Or_nil ⟨e1.trans e2, I2, rfl⟩

theorem evalArgs_any {M : Model} {A : Around} {E : Value → Shared → Prop} {s : Shared} {f : Value} {Q : Args → Shared → Prop} {trees : List (Bool × Sem Value)} (ht : trees.any (·.1) = false) (h : wpAny M A (spliced trees) (fun vs s' => Q ⟨vs, []⟩ s') E s) : wpAny M A (evalArgs f true trees []) Q E s := by
  cases trees with
  | nil =>
    unfold evalArgs
    show wpAny M A (spliced [] >>= _) Q E s
    refine wpAny_bind (wpAny_mono h (fun vs s1 h1 => wpAny_bind (wpAny_pure ?_)) fun uu uu z => z)
    exact wpAny_holding (wpAny_pure h1)
  | cons p r =>
    obtain ⟨b, t⟩ := p
    have hb : b = false := by
      simp only [List.any_cons, Bool.or_eq_false_iff] at ht
      exact ht.1
    subst hb
    exact evalArgs_plain h
theorem ev_bcall {x : Str} {p : Pos} {args : List Expr} {trees : List (Bool × Sem Value)} {id : String} {RA : Shared → List Value → Prop} {R : Shared → Value → Prop} (hf : EvV c n s (eval (.Name x p) env) (.builtin id)) (hargs : backTo pos (starEach args env) = trees) (ht : trees.any (·.1) = false)
    (ha : Ev c n s (spliced trees) RA) (hc : ∀ vs s1, Ext s s1 → Inv c s1 → RA s1 vs → Ev c n s1 (call (.builtin id) vs) R) : Ev c n s (eval (.Call (.Name x p) args [] pos) env) R := fun s' e I => by
  refine Call_Name hargs (wz (hf s' e I) (fun u s1 e1 I1 hu => ?_))
  subst hu
  refine callWith_builtin ht (evalArgs_any ht (wz (ha s1 (e.trans e1) I1) (fun vs s2 e2 I2 r => ?_)))
  exact wz (hc vs s2 ((e.trans e1).trans e2) I2 r s2 (.refl _) I2) (fun v s3 e3 I3 r3 => ⟨(e1.trans e2).trans e3, I3, r3⟩)
theorem ev_bmeth {o : Expr} {name : Str} {apos : Pos} {args : List Expr} {trees : List (Bool × Sem Value)} {T id : String} {RO : Shared → Value → Prop} {RA : Shared → List Value → Prop} {R : Shared → Value → Prop} (ho : Ev c n s (eval o env) RO) (hm : ∀ s1 s2 v, Ext s1 s2 → RO s1 v → RO s2 v)
    (hT : ∀ s1 v, RO s1 v → s1.TypeIs v T ∧ ∀ a, v = .ref a → ∃ o, s1.heap.get? a = some o ∧ o.dict = none) (pa : PlainAttrs T) (slot : Slot T name id) (hty : typeOf (.builtin id) = pure (.type "method_descriptor")) (hargs : backTo pos (starEach args env) = trees) (ht : trees.any (·.1) = false) (hl : args.length < 29)
    (ha : Ev c n s (spliced trees) RA) (hc : ∀ v vs s1, Ext s s1 → Inv c s1 → RO s1 v → RA s1 vs → Ev c n s1 (call (.builtin id) (v :: vs)) R)
    (hbase : autoParam (attributeBase o name env (eval o env) = eval o env) tacR) (hline : autoParam ((apos.endLine == pos.line) = true) tacR) : Ev c n s (eval (.Call (.Attribute o name apos) args [] pos) env) R := fun s' e I => by
  have hform : methodCallForm (args.length + 0) trees [] = true := by
    unfold methodCallForm
    simp only [Bool.and_eq_true, List.all_eq_true, Bool.not_eq_true', List.any_eq_false] at ht ⊢
    exact ⟨⟨fun x hx => by simpa using ht x hx, fun uu h => nomatch h⟩, by simp; omega⟩
  refine call_attr (wz (ho s' e I) (fun v s1 e1 I1 r1 => ?_)) hargs hform hbase hline
  obtain ⟨hTT, hdd⟩ := hT s1 v r1
  refine getMethod_builtin hTT pa slot hty hdd ?_
  refine callWith_builtin ht (evalArgs_any ht (wz (ha s1 (e.trans e1) I1) (fun vs s2 e2 I2 r => ?_)))
  exact wz (hc v vs s2 ((e.trans e1).trans e2) I2 (hm _ _ _ e2 r1) r s2 (.refl _) I2) (fun v s3 e3 I3 r3 => ⟨(e1.trans e2).trans e3, I3, r3⟩)

theorem blt_len (O : c.Ok) {p : Pos} (hk : autoParam (env.scope.kind = .function) tacR) (hx : autoParam (env.kindOf "len" = some .globalImplicit) tacR) (hgl : autoParam (env.globals = mainGlobals) tacR) (hbl : autoParam (env.builtins = builtinsNs) tacR) : EvV c n s (eval (.Name "len" p) env) (.builtin "len") := fun s' e I =>
  (ev_builtin (s := s') O (O.no "len" (inF 0 rfl)) (by kernel_rfl) (by decide) hk hx hgl hbl (by decide)) s' (.refl _) I
theorem ev_len {p : Pos} {a : Expr} (O : c.Ok) (h : EvD c n X s (eval a env) (.lst ds)) (hsz : ds.length ≤ 1000) (hargs : autoParam (backTo pos (starEach [a] env) = [(false, eval a env)]) tacR) (hk : autoParam (env.scope.kind = .function) tacR) (hx : autoParam (env.kindOf "len" = some .globalImplicit) tacR) (hgl : autoParam (env.globals = mainGlobals) tacR) (hbl : autoParam (env.builtins = builtinsNs) tacR) :
    EvD c n X s (eval (.Call (.Name "len" p) [a] [] pos) env) (.int ds.length) := by
  refine ev_bcall (blt_len O hk hx hgl hbl) hargs rfl (evl_cons h evl_nil) fun vs s1 e I1 zp => ?_
  obtain ⟨v, r, ev, t, er⟩ := zp
  subst ev
  have er : r = [] := er
  subst er
  obtain ⟨b, us, rfl, nb, hl, tl⟩ := t
  intro s2 e2 I2
  have := tl.length
  rw [Array.length_toList] at this
  refine call_len_l (list_obj hl fun o q1 q2 => e2.keep.get q1 q2) (by omega) ⟨(Ext.toks _ _), I2.toks _, s2.toks + 1, by rw [this]⟩
theorem ev_len_live {p xp : Pos} {x : Str} {a : Addr} (O : c.Ok) (B : Bd c env X₀ own Z hA os s σ) (h : σ.lookup x = some (.ls a ds)) (hsz : ds.length ≤ 1000) (hargs : autoParam (backTo pos (starEach [.Name x xp] env) = [(false, eval (.Name x xp) env)]) tacR) (hx' : autoParam (isLC (env.kindOf x) = true) tacR) (hk : autoParam (env.scope.kind = .function) tacR) (hd : autoParam ((x == ("__debug__" : Str)) = false) tacD) (hx : autoParam (env.kindOf "len" = some .globalImplicit) tacR) (hgl : autoParam (env.globals = mainGlobals) tacR) (hbl : autoParam (env.builtins = builtinsNs) tacR) :
    EvD c n X s (eval (.Call (.Name "len" p) [.Name x xp] [] pos) env) (.int ds.length) := by
  refine ev_bcall (RA := fun uu vs => vs = [.ref a]) (blt_len O hk hx hgl hbl) hargs rfl (fun s1 e I => spliced_cons (wz (ev_live (n := n) B h hk hx' hd s1 e I) (fun v s2 e2 I2 r => spliced_nil ⟨e2, I2, by rw [r]⟩))) fun vs s1 e I1 ev => ?_
  subst ev
  intro s2 e2 I2
  obtain ⟨_, us, hl, tl⟩ := (B.ext (e.trans e2) I2).live h
  have := tl.length
  rw [Array.length_toList] at this
  exact call_len_l hl (by omega) ⟨(Ext.toks _ _), I2.toks _, s2.toks + 1, by rw [this]⟩
theorem ev_item_live {x : Str} {xp : Pos} {a : Addr} {slice : Expr} {i : Int} (B : Bd c env X₀ own Z hA os s σ) (h : σ.lookup x = some (.ls a ds)) (h2 : EvD c n X s (eval slice env) (.int i)) (hlo : 0 ≤ i) (hhi : i < 2 ^ 63) (hd : ds[i.toNat]? = some d)
    (hk : autoParam (env.scope.kind = .function) tacR) (hx' : autoParam (isLC (env.kindOf x) = true) tacR) (hdb : autoParam ((x == ("__debug__" : Str)) = false) tacD)
    (hs : autoParam (∀ t k u, subscripted slice false (.ref t) (.int k u) = operate [.ref t, .int k u] (getItem (.ref t) (.int k u))) tacW) : EvD c n (fun a => X₀ a ∨ own a) s (eval (.Subscript (.Name x xp) slice pos) env) d := fun s' e I => by
  refine Subscript_ (wz (ev_live (n := n) B h hk hx' hdb s' e I) (fun v s1 e1 I1 t1 => wz (h2 s1 (e.trans e1) I1) (fun u s2 e2 I2 t2 => ?_)))
  subst t1
  obtain ⟨tk, rfl⟩ := t2
  obtain ⟨_, us, hl, tl⟩ := (B.ext ((e.trans e1).trans e2) I2).live h
  obtain ⟨w, hw, tw⟩ := tl.get hd
  exact tail_any hl.is.typeIs slot_list_getitem.lookup (wpAny_getItem_list hl.is hlo hhi (by simpa using hw) ⟨e1.trans e2, I2, tw⟩) (hs a i tk)

theorem Bd.change {x : Str} {a : Addr} {ds' : List D} {vs' : Array Value} {h' : Heap} {t : Tok} {n' : Nat} (B : Bd c env X₀ own Z hA os s ((x, .ls a ds) :: σ)) (hs : Heap.SameBut a s.heap h') (hn : h'.get? a = some (lstO vs' n')) (ht : TrL s.heap (fun b => X₀ b ∨ own b) ds' vs'.toList)
    (hap : ∀ y b es, σ.lookup y = some (.ls b es) → y ≠ x → b ≠ a) : Bd c env X₀ own Z hA os { s with heap := h', toks := t } ((x, .ls a ds') :: σ) := by
  obtain ⟨ow, vs, hl, tl⟩ := B.live (x := x) (a := a) (ds := ds) (by rw [List.lookup_cons, beq_self_eq_true])
  have kp : Kp own s.heap h' := .same hs ow
  obtain ⟨vm, F, g⟩ := B.loc
  have neL : env.locals ≠ a := by obtain ⟨m, hm, _⟩ := F.ns; exact Ne.symm (list_ne_ns hl hm)
  have neC : ∀ y cc, env.kindOf y = some .cell → env.cells.lookup y = some cc → cc ≠ a := fun y cc hy e => Ne.symm (list_ne_cell hl (F.cell y cc hy e))
  refine { B with
    inv := B.inv.sameBut hs (B.far a ow)
    chg := B.chg.trans kp B.mine
    dcs := fun y lv b q hb => by
      rcases lookup_cons_or q with ⟨rfl, e⟩ | ⟨ne, q⟩
      · subst e; exact B.dcs y (.ls a ds) b (by rw [List.lookup_cons, beq_self_eq_true]) hb
      · exact B.dcs y lv b (by rw [List.lookup_cons, beq_eq_false_iff_ne.mpr ne]; exact q) hb
    ex := fun b hb => ?_
    loc := ⟨vm, ⟨let ⟨m, p, q⟩ := F.ns; ⟨m, p.sameBut hs neL, q⟩, fun y cc hy e => (F.cell y cc hy e).sameBut hs (neC y cc hy e), F.apart, F.above, F.has⟩, fun y lv q => ?_⟩ }
  · by_cases q : b = a
    · subst q; rw [show ({ s with heap := h', toks := t } : Shared).heap.get? b = _ from hn]; rfl
    · rw [show ({ s with heap := h', toks := t } : Shared).heap.get? b = s.heap.get? b from hs.2 b q]; exact B.ex b hb
  · rcases lookup_cons_or q with ⟨rfl, rfl⟩ | ⟨ne, q⟩
    · obtain ⟨v, p1, p2, _⟩ := g y _ (by rw [List.lookup_cons, beq_self_eq_true])
      exact ⟨v, p1, p2, ow, vs', ⟨n', hn⟩, TrL.mv (.same hs (.inr ow)) _ _ ht⟩
    · have hy : ((x, LV.ls a ds) :: σ).lookup y = some lv := by rw [List.lookup_cons, beq_eq_false_iff_ne.mpr ne]; exact q
      obtain ⟨v, p1, p2⟩ := g y lv hy
      refine ⟨v, p1, ?_⟩
      cases lv with
      | tr d => exact Tr.mv (.same hs (.inr ow)) d v p2
      | va u => exact p2
      | dc b es =>
        obtain ⟨q1, q2, hf, l, ob, nn, q3, q4, q5⟩ := p2
        refine ⟨q1, q2, hf, l, ob, nn, (hs.2 b ?_).trans q3, q4, q5⟩
        rintro rfl
        obtain ⟨k, hk⟩ := hl
        rw [hk] at q3; cases q3
        have e := q4.1
        injection e with e
        exact absurd e (by decide)
      | ac b dx es i0 =>
        obtain ⟨q1, q2, q3, us, q4, q5⟩ := p2
        obtain ⟨k, hk⟩ := hl
        refine ⟨q1, q2, q3, us, q4.keep (fun o e uu => (hs.2 b ?_).trans e) (fun o e uu => (hs.2 dx ?_).trans e), TrL.mv (.same hs (.inr ow)) _ _ q5⟩
        · rintro rfl
          obtain ⟨_, _, ⟨m, q6⟩, _⟩ := q4
          rw [hk] at q6; cases q6
        · rintro rfl
          obtain ⟨_, _, _, od, t, q6, q7, _⟩ := q4
          rw [hk] at q6; cases q6
          injection q7 with q7
          exact absurd q7 (by decide)
      | ls b es =>
        obtain ⟨q1, q2, us, q3, q4⟩ := p2
        exact ⟨q1, q2, us, list_same hs q3 (hap y b es q ne), TrL.mv (.same hs (.inr ow)) _ _ q4⟩
end
end Mine
end
section
open PySem PySem.W PySem.Calls PyProof.Rows
set_option linter.unusedVariables false
set_option maxRecDepth 100000
namespace Mine
set_option genSizeOf false
set_option genInjectivity false
set_option tactic.hygienic false
section
variable {c : Cx} {n : Nat} {env : Env} {X X₀ own Z : Addr → Prop} {hA : Heap} {os : OsState} {s s' : Shared} {σ : List (Str × LV)} {d : D} {ds : List D} {pos : Pos} {rest body : List Stmt} {Q : Flow → Shared → Prop}

theorem TrL.snoc {h : Heap} {X : Addr → Prop} : ∀ {ds : List D} {vs : List Value} {d : D} {v : Value}, TrL h X ds vs → Tr h X d v → TrL h X (ds ++ [d]) (vs ++ [v])
  | [], vs, d, v, e, t => by rw [show vs = [] from e]; exact ⟨v, [], rfl, t, rfl⟩
  | d' :: ds, vs, d, v, zp, t => by obtain ⟨u, r, e, t1, t2⟩ := zp; subst e; exact ⟨u, r ++ [v], rfl, t1, TrL.snoc t2 t⟩
theorem TrL.app {h : Heap} {X : Addr → Prop} : ∀ {ds es : List D} {vs us : List Value}, TrL h X ds vs → TrL h X es us → TrL h X (ds ++ es) (vs ++ us)
  | [], es, vs, us, e, t => by rw [show vs = [] from e]; exact t
  | d' :: ds, es, vs, us, zp, t => by obtain ⟨u, r, e, t1, t2⟩ := zp; subst e; exact ⟨u, r ++ us, rfl, t1, TrL.app t2 t⟩
theorem TrL.take {h : Heap} {X : Addr → Prop} : ∀ {ds : List D} {vs : List Value} (k : Nat), TrL h X ds vs → TrL h X (ds.take k) (vs.take k)
  | [], vs, k, e => by rw [show vs = [] from e]; simp only [List.take_nil]; exact rfl
  | d' :: ds, vs, 0, zp => by obtain ⟨u, r, e, t1, t2⟩ := zp; exact rfl
  | d' :: ds, vs, k + 1, zp => by obtain ⟨u, r, e, t1, t2⟩ := zp; subst e; exact ⟨u, r.take k, rfl, t1, TrL.take k t2⟩
theorem TrL.drop {h : Heap} {X : Addr → Prop} : ∀ {ds : List D} {vs : List Value} (k : Nat), TrL h X ds vs → TrL h X (ds.drop k) (vs.drop k)
  | [], vs, k, e => by rw [show vs = [] from e]; simp only [List.drop_nil]; exact rfl
  | d' :: ds, vs, 0, t => t
  | d' :: ds, vs, k + 1, zp => by obtain ⟨u, r, e, t1, t2⟩ := zp; subst e; exact TrL.drop k t2

theorem Bd.front {x : Str} {lv : LV} (B : Bd c env X₀ own Z hA os s σ) (h : σ.lookup x = some lv) : Bd c env X₀ own Z hA os s ((x, lv) :: σ) :=
  { B with
    dcs := fun y lv a q ha => by
      rcases lookup_cons_or q with ⟨rfl, e⟩ | ⟨_, q⟩
      · subst e; exact B.dcs y _ a h ha
      · exact B.dcs y lv a q ha
    loc := let ⟨vm, F, g⟩ := B.loc; ⟨vm, F, fun y l q => by
      rcases lookup_cons_or q with ⟨rfl, rfl⟩ | ⟨_, q⟩
      · exact g y _ h
      · exact g y l q⟩ }

noncomputable def LV.isLs : LV → Bool
  | .ls .. => true
  | _ => false
theorem hap_of {x : Str} {a : Addr} (h : (σ.all fun p => (p.1 == x) || !p.2.isLs) = true) : ∀ y b es, σ.lookup y = some (.ls b es) → y ≠ x → b ≠ a := fun y b es hy ne => by
  have this : ((y == x) || false) = true := List.all_eq_true.mp h (y, .ls b es) (mem_of_lookup hy)
  rw [Bool.or_false] at this
  exact absurd (eq_of_beq this) ne
theorem hap_of2 {x z : Str} {a : Addr} (h : (σ.all fun p => (p.1 == x) || (p.1 == z) || !p.2.isLs) = true) (hz : ∀ b es, σ.lookup z = some (.ls b es) → b ≠ a) : ∀ y b es, σ.lookup y = some (.ls b es) → y ≠ x → b ≠ a := fun y b es hy ne => by
  have this : (((y == x) || (y == z)) || false) = true := List.all_eq_true.mp h (y, .ls b es) (mem_of_lookup hy)
  rw [Bool.or_false, Bool.or_eq_true] at this
  rcases this with q | q
  · exact absurd (eq_of_beq q) ne
  · rw [eq_of_beq q] at hy
    exact hz b es hy
theorem st_append {x : Str} {a : Addr} {xp apos p2 : Pos} {e : Expr} (B : Bd c env X₀ own Z hA os s σ) (hl : σ.lookup x = some (.ls a ds)) (he : EvD c n (fun a => X₀ a ∨ own a) s (eval e env) d) (hsz : ds.length ≤ 1000)
    (hap : ∀ y b es, σ.lookup y = some (.ls b es) → y ≠ x → b ≠ a) (h : ∀ s', Bd c env X₀ own Z hA os s' ((x, .ls a (ds ++ [d])) :: σ) → W c n (execs rest env) Q s')
    (hargs : autoParam (backTo pos (starEach [e] env) = [(false, eval e env)]) tacR) (hx' : autoParam (isLC (env.kindOf x) = true) tacR) (hk : autoParam (env.scope.kind = .function) tacR) (hd : autoParam ((x == ("__debug__" : Str)) = false) tacD) (hi : autoParam (interactive env = false) tacR) (hline : autoParam ((apos.endLine == pos.line) = true) tacR)
    (hsw : autoParam (swapsWith (.Call (.Attribute (.Name x xp) "append" apos) [e] [] pos) none p2.line env = pure false) tacR) :
    W c n (execs (.Expr (.Call (.Attribute (.Name x xp) "append" apos) [e] [] pos) p2 :: rest) env) Q s := by
  refine wpAny_execs_cons (wpAny_Expr ?_ hi hsw)
  refine call_attr (wz (ev_live (n := n) B hl hk hx' hd s (.refl _) B.inv) (fun v s1 e1 I1 t1 => ?_)) hargs rfl rfl hline
  subst t1
  have B1 := B.ext e1 I1
  obtain ⟨ow, us, hl1, tl1⟩ := B1.live hl
  refine getMethod_builtin hl1.is.typeIs F.plainAttrs_list slot_list_append F.type_list_append (fun b e => by cases e; obtain ⟨k, hk⟩ := hl1; exact ⟨_, hk, rfl⟩) ?_
  refine callWith_builtin rfl (evalArgs_any rfl (wz (evl_cons he evl_nil s1 e1 I1) (fun vs s2 e2 I2 zr => ?_)))
  obtain ⟨u, r, ev, t2, er⟩ := zr
  subst ev
  have er : r = [] := er
  subst er
  have B2 := B1.ext e2 I2
  obtain ⟨_, us2, hl2, tl2⟩ := B2.live hl
  have len2 := tl2.length
  rw [Array.length_toList] at len2
  refine wpAny_list_append_plain (items := us2) hl2 (fun h' hn hs => ?_) (by show us2.size ≤ 2 ^ 24; omega)
  obtain ⟨n', hn⟩ := hn
  exact h _ ((B2.front hl).change (ds' := ds ++ [d]) hs hn (by rw [Array.toList_push]; exact TrL.snoc tl2 t2) hap)

theorem ins_list (us : Array Value) (i : Nat) (hi : i ≤ us.size) (u : Value) : ((us.extract 0 i).push u ++ us.extract i).toList = us.toList.take i ++ u :: us.toList.drop i := by
  simp [Array.toList_extract, List.extract_eq_take_drop]
  exact List.take_of_length_le (by simp)
theorem mapSeq_lst (f : Array Value → Array Value) (us : Array Value) (m : Nat) : ∃ k, Obj.mapSeq f (lstO us m) = lstO (f us) k := by
  unfold Obj.mapSeq
  exact ⟨_, rfl⟩
theorem fits_index (i : Nat) (h : i ≤ 100000) : Builtin.List.listFitsIndex (i : Int) = true := by
  have e1 : (2 : Int) ^ 63 = 9223372036854775808 := by decide
  unfold Builtin.List.listFitsIndex
  rw [e1, Bool.and_eq_true]
  exact ⟨decide_eq_true (by omega), decide_eq_true (by omega)⟩
theorem call_insertZ {c : Cx} {n : Nat} {s : Shared} {a : Addr} {us2 : Array Value} {m : Nat} {z : Int} {i : Nat} {tk : Tok} {u2 : Value} {Q : Value → Shared → Prop} (hm : s.heap.get? a = some (lstO us2 m)) (hz : z = (i : Int)) (hi : i ≤ us2.size) (hsz : us2.size ≤ 1000)
    (f1 : ¬ (!Builtin.List.listFitsIndex z) = true)
    (h : ∀ h' n', Heap.SameBut a s.heap h' → h'.get? a = some (lstO ((us2.extract 0 i).push u2 ++ us2.extract i) n') → Q .none { s with heap := h' }) : W c n (call (.builtin "list.insert") [.ref a, .int z tk, u2]) Q s := by
  have f2 : us2.size ≤ sizeLine := Nat.le_trans hsz (by decide)
  have M := AutoSeq1.list_insert_list_int_val_1 a us2 m z tk u2 f1 f2
  refine call_meets F.slot_list_insert ⟨_, hm, rfl⟩ F.entry_list_insert (F.args_list_insert_3 _ _ _) M ⟨hm, ?_⟩
  obtain ⟨m', hm'⟩ := mapSeq_lst (fun xs => have k := if z < 0 then (z + (xs.size : Int)).toNat else min z.toNat xs.size; (xs.extract 0 k).push u2 ++ xs.extract k) us2 m
  refine h _ m' (.update ..) ((Heap.get?_update_self _ hm (by rw [hm']; rfl)).trans ?_)
  have hneg : ¬ z < 0 := by omega
  have hk' : min z.toNat us2.size = i := by omega
  rw [hm']
  simp only [if_neg hneg, hk']
theorem st_insert {x : Str} {a : Addr} {xp apos p2 : Pos} {e1 e2 : Expr} {i : Nat} (B : Bd c env X₀ own Z hA os s σ) (hl : σ.lookup x = some (.ls a ds)) (h1 : EvD c n (fun a => X₀ a ∨ own a) s (eval e1 env) (.int i)) (h2 : EvD c n (fun a => X₀ a ∨ own a) s (eval e2 env) d) (hsz : ds.length ≤ 1000) (hi' : i ≤ ds.length)
    (hap : ∀ y b es, σ.lookup y = some (.ls b es) → y ≠ x → b ≠ a) (h : ∀ s', Bd c env X₀ own Z hA os s' ((x, .ls a (ds.take i ++ d :: ds.drop i)) :: σ) → W c n (execs rest env) Q s')
    (hargs : autoParam (backTo pos (starEach [e1, e2] env) = [(false, eval e1 env), (false, eval e2 env)]) tacR) (hx' : autoParam (isLC (env.kindOf x) = true) tacR) (hk : autoParam (env.scope.kind = .function) tacR) (hd : autoParam ((x == ("__debug__" : Str)) = false) tacD) (hi : autoParam (interactive env = false) tacR) (hline : autoParam ((apos.endLine == pos.line) = true) tacR)
    (hsw : autoParam (swapsWith (.Call (.Attribute (.Name x xp) "insert" apos) [e1, e2] [] pos) none p2.line env = pure false) tacR) :
    W c n (execs (.Expr (.Call (.Attribute (.Name x xp) "insert" apos) [e1, e2] [] pos) p2 :: rest) env) Q s := by
  refine wpAny_execs_cons (wpAny_Expr ?_ hi hsw)
  refine call_attr (wz (ev_live (n := n) B hl hk hx' hd s (.refl _) B.inv) (fun v s1 k1 I1 t1 => ?_)) hargs rfl rfl hline
  subst t1
  have B1 := B.ext k1 I1
  obtain ⟨ow, us, hl1, tl1⟩ := B1.live hl
  refine getMethod_builtin hl1.is.typeIs F.plainAttrs_list F.slot_list_insert F.type_list_insert (fun b e => by cases e; obtain ⟨k, hk⟩ := hl1; exact ⟨_, hk, rfl⟩) ?_
  refine callWith_builtin rfl (evalArgs_any rfl (wz (evl_cons h1 (evl_cons h2 evl_nil) s1 k1 I1) (fun vs s2 k2 I2 zr => ?_)))
  obtain ⟨u, r, ev, ⟨tk, t1⟩, u2, r2, ev2, t2, er⟩ := zr
  subst ev t1 ev2
  have er : r2 = [] := er
  subst er
  have B2 := B1.ext k2 I2
  obtain ⟨_, us2, hl2, tl2⟩ := B2.live hl
  have len2 := tl2.length
  rw [Array.length_toList] at len2
  obtain ⟨m, hm⟩ := hl2
  refine call_insertZ hm rfl (by omega) (by omega) (by rw [fits_index i (by omega)]; intro q; cases q) fun h' n' hs hn => h _ ((B2.front hl).change hs hn ?_ hap)
  rw [ins_list us2 i (by omega) u2]
  exact TrL.app (TrL.take i tl2) ⟨u2, _, rfl, t2, TrL.drop i tl2⟩

theorem st_aug {x : Str} {xp : Pos} {e : Expr} {i j : Int} (B : Bd c env X₀ own Z hA os s σ) (hl : σ.lookup x = some (.tr (.int i))) (he : EvD c n (fun a => X₀ a ∨ own a) s (eval e env) (.int j))
    (h : ∀ s', Bd c env X₀ own Z hA os s' ((x, .tr (.int (i + j))) :: σ) → W c n (execs rest env) Q s') (hk : autoParam (env.scope.kind = .function) tacR) (hx : autoParam (isLC (env.kindOf x) = true) tacR) (hd : autoParam ((x == ("__debug__" : Str)) = false) tacD) :
    W c n (execs (.AugAssign (.Name x xp) .Add e pos :: rest) env) Q s := by
  refine wpAny_execs_cons (wpAny_AugAssign_Name ?_)
  obtain ⟨vm, F, g⟩ := B.loc
  obtain ⟨v, ev, ⟨t, ok⟩⟩ := g x _ hl
  subst ok
  have ld : ∀ {Q' : Value → Shared → Prop}, Q' (.int i t) s → W c n (loadName env x) Q' s := fun hq => by
    rcases isLC_or hx with q | q
    · obtain ⟨m, hm, hmv⟩ := F.ns
      exact wpAny_loadName_local hk q hm ((hmv x q).trans ev) hq
    · obtain ⟨cc, hc⟩ := Option.isSome_iff_exists.mp (F.has x q)
      exact wpAny_loadName_cell hk q hc (ev ▸ F.cell x cc q hc) hq
  refine ld (wz (he s (.refl _) B.inv) (fun u s1 e1 I1 zr => ?_))
  obtain ⟨tk, r⟩ := zr
  subst r
  refine wpAny_iadd_int ?_
  have E := e1.trans (Ext.toks s1 (s1.toks + 1))
  exact st_name (lv := .tr (.int (i + j))) (B.ext E (I1.toks _)) hk hx ⟨_, rfl⟩ fun s2 B2 => h s2 B2

theorem st_while {test : Expr} {ι : Type} (own' : ι → Addr → Prop) (σ' : ι → List (Str × LV)) (P : ι → Prop) (F : ι → Prop) (μ : ι → Nat) (x0 : ι)
    (B : Bd c env X₀ own Z hA os s σ) (hP : P x0) (h0 : own' x0 = own) (hσ : ∀ p ∈ σ' x0, σ.lookup p.1 = some p.2)
    (turn : ∀ x hB s, P x → Bd c env X₀ (own' x) (own' x) hB os s (σ' x) → ∃ b, EvB c n s (isTrue test env (eval test env)) b ∧ (b = false → F x) ∧ (b = true → ∀ (Q' : Flow → Shared → Prop) s1, (∀ x' s3, P x' → μ x' < μ x → Bd c env X₀ (own' x') (own' x) hB os s3 (σ' x') → Q' .next s3) → Bd c env X₀ (own' x) (own' x) hB os s1 (σ' x) →
      W c n (execs body env) Q' s1))
    (done : ∀ x s', F x → P x → Bd c env X₀ (own' x) Z hA os s' (σ' x) → W c n (execs rest env) Q s') :
    W c n (execs (.While test body [] pos :: rest) env) Q s := by
  refine wpAny_execs_cons (wpAny_While ?_)
  let Inn (m : Nat) (s' : Shared) : Prop := ∃ x, m = μ x ∧ P x ∧ Bd c env X₀ (own' x) Z hA os s' (σ' x)
  refine codeAny_whileLoop Inn (fun m s' hs' => ?_) (μ x0) ⟨x0, rfl, hP, ?_⟩
  · obtain ⟨x, rfl, hp, b⟩ := hs'
    obtain ⟨bb, hb, hf, ht⟩ := turn x s'.heap s' hp b.anew
    refine wpNoE (wz (hb s' (.refl _) b.inv) (fun u s1 e1 I1 r => ?_))
    subst r
    cases u with
    | false => exact wpNoE (wpAny_execs_nil (done x s1 (hf rfl) hp (b.ext e1 I1)))
    | true =>
      refine wpNoE (wpAny_mono (ht rfl (fun fl s3 => match fl with
        | .next => ∃ x', P x' ∧ μ x' < μ x ∧ Bd c env X₀ (own' x') (own' x) s'.heap os s3 (σ' x')
        | _ => False) s1 (fun x' s3 q1 q2 q3 => ⟨x', q1, q2, q3⟩) (b.anew.ext e1 I1)) (fun fl s3 h3 => ?_) fun uu uu z => z)
      have step : (∃ x', P x' ∧ μ x' < μ x ∧ Bd c env X₀ (own' x') (own' x) s'.heap os s3 (σ' x')) → ∃ m', m' < μ x ∧ Inn m' s3 := fun zp => by obtain ⟨x', hp', hm, b'⟩ := zp; exact ⟨μ x', hm, x', rfl, hp', b.back b'⟩
      cases fl with
      | next => exact step h3
      | cont => exact h3.elim
      | brk => exact h3.elim
      | ret v => exact h3.elim
  · rw [h0]; exact B.pick hσ
end
end Mine
end
section
open PySem PySem.W PySem.Calls PyProof.Rows
set_option linter.unusedVariables false
set_option maxRecDepth 100000
namespace Mine
set_option genSizeOf false
set_option genInjectivity false
set_option tactic.hygienic false
noncomputable def LVs (h : Heap) (X own : Addr → Prop) : List LV → List Value → Prop
  | [], vs => vs = []
  | lv :: lvs, vs => ∃ v r, vs = v :: r ∧ lv.ok h X own v ∧ LVs h X own lvs r
theorem LVs.length {h : Heap} {X own : Addr → Prop} : ∀ {lvs : List LV} {vs : List Value}, LVs h X own lvs vs → vs.length = lvs.length
  | [], u1, e => by rw [show _ = [] from e]; rfl
  | u1 :: u2, u3, zp => by obtain ⟨v, r, e, _, t⟩ := zp; rw [e, List.length_cons, List.length_cons, t.length]
theorem LVs.lookup {h : Heap} {X own : Addr → Prop} : ∀ {ns : List Str} {lvs : List LV} {vs : List Value} {x : Str} {lv : LV}, LVs h X own lvs vs → (ns.zip lvs).lookup x = some lv → ∃ v, (ns.zip vs).lookup x = some v ∧ lv.ok h X own v
  | [], lvs, vs, x, lv, u1, e => by simp at e
  | n :: ns, [], vs, x, lv, u1, e => by simp at e
  | n :: ns, l :: lvs, vs, x, lv, zp, e => by
    obtain ⟨v, r, ev, t, ts⟩ := zp
    subst ev
    simp only [List.zip_cons_cons, List.lookup_cons] at e ⊢
    cases q : (x == n) with
    | true => rw [q] at e; cases e; exact ⟨v, rfl, t⟩
    | false => rw [q] at e; exact ts.lookup e
theorem LV.ok.own {lv : LV} {h : Heap} {X own : Addr → Prop} {v : Value} (ok : lv.ok h X own v) {a : Addr} (ha : a ∈ lv.addrs) : own a := by
  cases lv with
  | tr d => exact nomatch ha
  | va u => exact nomatch ha
  | ls b ds => have hm : a = b := mem1 ha
               exact hm ▸ ok.2.1
  | dc b es => have hm : a = b := mem1 ha
               exact hm ▸ ok.2.1
  | ac b dx ds i0 =>
    have hm : a = b ∨ a = dx := mem2 ha
    rcases hm with rfl | rfl
    · exact ok.2.1
    · exact ok.2.2.1
structure FnRec.Ok0 (f : FnRec) (names : List Str) : Prop where
  mem : f ∈ FNS
  cl : f.cl = []
  kinds : (names.all fun y => isLC ((scOf f.st).names.lookup y)) = true
  nodup : names.Nodup
  cnodup : ((cellsFrom 0 (scOf f.st).names []).map (·.1)).Nodup
  celled : ((scOf f.st).names.all fun y => !(y.2 == .cell) || ((cellsFrom 0 (scOf f.st).names []).lookup y.1).isSome) = true
  co : (scOf f.st).isCoroutine = false
  gen : (scOf f.st).isGenerator = false
  fun_ : (scOf f.st).kind = .function
theorem FnRec.Ok.ok0 {f : FnRec} {names : List Str} (O : f.Ok names) : f.Ok0 names := ⟨O.mem, O.cl, O.kinds, O.nodup, O.cnodup, O.celled, O.co, O.gen, O.fun_⟩
theorem codeAny_call_cellsB {prog : Program} {w : World} {A : Around} {s : Shared} {R : Result → Shared → Prop} {a : Addr} {o : Obj} {fd : FuncData} {body : List Stmt} {vals : List Value} {binds : List (Str × Value)}
    (hroom : A.depth < recursionLimit) (ho : s.heap.get? a = some o) (hdata : o.data = .func fd) (hlim : s.heap.NoLimit) (hcd : s.heap.CodeRec fd.code fd.qualname)
    (hbody : fd.body = .stmts body) (hbind : BindsTo s fd ⟨vals, []⟩ binds) (hclo : fd.closure = [])
    (hkind : ∀ x ∈ binds, fd.scope.names.lookup x.1 = some .local ∨ (fd.scope.names.lookup x.1 = some .cell ∧ ((cellsFrom (s.heap.objs.size + 1) fd.scope.names []).lookup x.1).isSome = true))
    (h : ∀ s₁, InCallC s (callEnvC fd s.heap.objs.size a).locals (bindL (callEnvC fd s.heap.objs.size a).kindOf binds fun uu => none) (callEnvC fd s.heap.objs.size a).cells
        (bindC (callEnvC fd s.heap.objs.size a).kindOf binds fun uu => none) s₁ →
      wpAny (model prog w) (A.deeper (callEnvC fd s.heap.objs.size a)) (execs body (callEnvC fd s.heap.objs.size a)) (fun f s' => R (.ok (.ret (match f with | .ret v => v | _ => .none))) s')
        (fun e s' => wpAny (model prog w) (A.deeper (callEnvC fd s.heap.objs.size a)) (leaving (callEnvC fd s.heap.objs.size a) e) (fun uu s'' => R (.error e) s'') (fun e' s'' => R (.error e') s'') s') s₁)
    (hco : autoParam (fd.scope.isCoroutine = false) tacR) (hgen : autoParam (fd.scope.isGenerator = false) tacR) (hk : autoParam (fd.scope.kind = .function) tacR) :
    codeAny (model prog w) A (.call (.ref a) ⟨vals, []⟩) R s := by
  refine codeAny_call_function hroom ho hdata hco hgen hbody hcd (hbind _ _ _ _ ?_)
  rw [hclo]
  refine wpAny_newFunctionEnv_cells hk hkind fun env he s' x => ?_
  subst he
  exact ⟨hlim.keeps x.toInCall.keep, codeAny_func (h s' x)⟩
theorem callGB {c : Cx} {n : Nat} {f : FnRec} {names : List Str} {X lent : Addr → Prop} {s : Shared} {lvs : List LV} {vs : List Value} {Q : Value → Shared → Prop} (O : f.Ok0 names) (hl : names.length = lvs.length) (hn : n ≤ 20) (I : Inv c s) (hX : ∀ a, X a → (s.heap.get? a).isSome = true)
    (hlent : ∀ a, lent a → @LT.lt Nat _ 256 a ∧ (s.heap.get? a).isSome = true ∧ ¬ X a) (t : LVs s.heap (fun a => X a ∨ lent a) lent lvs vs)
    (hbind : ∀ kV doc pm an ct, BindsTo s (f.data kV doc pm an ct) ⟨vs, []⟩ (names.zip vs))
    (body : ∀ (own : Addr → Prop) (s1 : Shared) (L : Addr) (cells : List (Str × Addr)), cells = cellsFrom (L + 1) (scOf f.st).names [] → (∀ a, lent a → own a) → Bd c (f.env L cells) X own lent s.heap s.os s1 (names.zip lvs) →
      W c (n + 1) (execs (bodyOf f.st) (f.env L cells)) (fun fl s' => Q (match fl with | .ret v => v | _ => .none) s') s1) : W c n (call (.ref f.a) vs) Q s := by
  obtain ⟨o, kV, doc, pm, an, ct, h1, h2, h3, oc, cvs, ctk, h4, h5, h6, h7⟩ := I.fn f O.mem
  have hlen : vs.length = names.length := by rw [t.length, hl]
  have zn := zip_names hlen
  refine wpAny_call ?_
  refine codeAny_call_cellsB (fd := f.data kV doc pm an ct) (body := bodyOf f.st) (binds := names.zip vs) (by show 320 + 20 * n < 1000; omega) h1 h3 I.lim ⟨f.cd, oc, cvs, ctk, rfl, h4, h6, h7⟩ rfl (hbind kV doc pm an ct) O.cl ?_ ?_ O.co O.gen O.fun_
  · intro y hy
    have hm : y.1 ∈ names := zn ▸ List.mem_map_of_mem hy
    have hk := List.all_eq_true.mp O.kinds y.1 hm
    rcases isLC_or hk with e | e
    · exact .inl e
    · refine .inr ⟨e, ?_⟩
      have := List.all_eq_true.mp O.celled (y.1, .cell) (mem_of_lookup e)
      rw [show (!((y.1, NameKind.cell).2 == NameKind.cell)) = false from rfl, Bool.false_or] at this
      exact (cells_isSome _ _ _).trans this
  · intro s₁ IC
    obtain ⟨h', tk, rfl⟩ := IC.toInCall.same
    have kp := IC.toInCall.keep
    have K' : Keep s.heap h' := Keep.full kp
    have fresh : ∀ a, (a = s.heap.objs.size ∨ ∃ x, (x, a) ∈ cellsFrom (s.heap.objs.size + 1) (scOf f.st).names []) → @LE.le Nat _ s.heap.objs.size a := by
      rintro a (rfl | ⟨x, hx⟩)
      · exact Nat.le_refl _
      · exact Nat.le_of_lt (IC.above x a hx)
    have none_ : ∀ a, @LE.le Nat _ s.heap.objs.size a → s.heap.get? a = none := fun a ha => by
      cases q : s.heap.get? a with
      | none => rfl
      | some o => exact absurd (Heap.lt_size q) (Nat.not_lt.mpr ha)
    have cnd : ((cellsFrom (s.heap.objs.size + 1) (scOf f.st).names []).map (·.1)).Nodup := cellsFrom_names (scOf f.st).names 0 (s.heap.objs.size + 1) [] [] rfl ▸ O.cnodup
    have cellAt : ∀ x a, (x, a) ∈ cellsFrom (s.heap.objs.size + 1) (scOf f.st).names [] → (h'.get? a).isSome = true := fun x a hx => by
      obtain ⟨o, ho, _⟩ := IC.cell x a (lookup_of_mem_nodup cnd hx)
      rw [show (h'.get? a) = some o from ho]; rfl
    refine wpAny_mono (wp_weak (A' := AL (n + 1)) rfl (by show 320 + 20 * n + 1 ≤ 320 + 20 * (n + 1); omega) (by show 200 + 200 * n + 3 ≤ 200 + 200 * (n + 1); omega) rfl rfl
      (body (fun a => lent a ∨ a = s.heap.objs.size ∨ ∃ x, (x, a) ∈ cellsFrom (s.heap.objs.size + 1) (scOf f.st).names []) _ s.heap.objs.size _ rfl (fun a h => .inl h) ?_)) (fun fl s' q => q) (fun uu uu z => z.elim)
    exact {
      inv := I.keep K' I.bare
      os := rfl
      chg := .of K'
      mine := fun a ha => ha.imp id fun ha => none_ a (fresh a ha)
      ex := fun a ha => by
        rcases ha with ha | ha | rfl | ⟨x, hx⟩
        · exact K'.there (hX a ha)
        · exact K'.there (hlent a ha).2.1
        · obtain ⟨o, _, _, ho, _⟩ := IC.toInCall.ns
          rw [show (h'.get? s.heap.objs.size) = some o from ho]; rfl
        · exact cellAt x a hx
      far := fun a ha => ha.elim (fun h => (hlent a h).1) fun ha => Nat.lt_of_lt_of_le I.size (fresh a ha)
      dis := fun a ha q => by
        rcases ha with ha | ha
        · exact (hlent a ha).2.2 q
        · have := hX a q
          rw [none_ a (fresh a ha)] at this; cases this
      ownL := .inr (.inl rfl)
      ownC := fun x a hx => .inr (.inr ⟨x, hx⟩)
      dcs := fun x lv a q ha => by
        obtain ⟨v, _, ok⟩ := t.lookup q
        have hs := (hlent a (ok.own ha)).2.1
        refine ⟨fun e => ?_, fun y cc hc e => ?_⟩
        · rw [show a = s.heap.objs.size from e, none_ _ (Nat.le_refl _)] at hs; cases hs
        · rw [e, none_ _ (fresh cc (.inr ⟨y, hc⟩))] at hs; cases hs
      loc := by
        refine ⟨fun y => if isLC ((scOf f.st).names.lookup y) = true then (if (scOf f.st).names.lookup y = some .local then bindL (callEnvC (f.data kV doc pm an ct) s.heap.objs.size f.a).kindOf (names.zip vs) (fun uu => none) y else bindC (callEnvC (f.data kV doc pm an ct) s.heap.objs.size f.a).kindOf (names.zip vs) (fun uu => none) y) else none, ⟨⟨_, IC.toInCall.ns, fun y hy => ?_⟩, fun y a hy ha => ?_, IC.apart, fun y a hy => Nat.ne_of_lt (IC.above y a hy), fun y hy => ?_⟩, fun y lv hy => ?_⟩
        · have hy' : (scOf f.st).names.lookup y = some .local := hy
          simp only [hy', isLC_l, if_true]
        · have hy' : (scOf f.st).names.lookup y = some .cell := hy
          have ne : ¬ (some NameKind.cell = some NameKind.local) := by intro q; cases q
          simp only [hy', isLC_c, if_true, if_neg ne]
          exact IC.cell y a ha
        · have hy' : (scOf f.st).names.lookup y = some .cell := hy
          have := List.all_eq_true.mp O.celled (y, .cell) (mem_of_lookup hy')
          rw [show (!((y, NameKind.cell).2 == NameKind.cell)) = false from rfl, Bool.false_or] at this
          exact (cells_isSome _ _ _).trans this
        · obtain ⟨v, hv, td⟩ := t.lookup hy
          have hm : y ∈ names := by
            have := mem_of_lookup hv
            exact zn ▸ List.mem_map_of_mem (f := (·.1)) this
          have hk := List.all_eq_true.mp O.kinds y hm
          have nd : ((names.zip vs).map (·.1)).Nodup := by rw [zn]; exact O.nodup
          refine ⟨v, ?_, ?_⟩
          · simp only [hk, if_true]
            rcases isLC_or hk with e | e
            · rw [if_pos e]; exact bindL_get _ _ _ _ nd hv e
            · rw [if_neg (by rw [e]; intro q; cases q)]; exact bindC_get _ _ _ _ nd hv e
          · refine LV.ok.mv ⟨fun a o uu e c => K'.get e c, fun a na sa q => ?_⟩ (fun a o uu uu e c => K'.get e c) (fun uu h => .inl h) td
            rcases q with q | q | q
            · exact na (.inl q)
            · exact na (.inr q)
            · rw [none_ a (fresh a q)] at sa; cases sa }
theorem callG {c : Cx} {n : Nat} {f : FnRec} {names : List Str} {X lent : Addr → Prop} {s : Shared} {lvs : List LV} {vs : List Value} {Q : Value → Shared → Prop} (O : f.Ok names) (hl : names.length = lvs.length) (hn : n ≤ 20) (I : Inv c s) (hX : ∀ a, X a → (s.heap.get? a).isSome = true)
    (hlent : ∀ a, lent a → @LT.lt Nat _ 256 a ∧ (s.heap.get? a).isSome = true ∧ ¬ X a) (t : LVs s.heap (fun a => X a ∨ lent a) lent lvs vs)
    (body : ∀ (own : Addr → Prop) (s1 : Shared) (L : Addr) (cells : List (Str × Addr)), cells = cellsFrom (L + 1) (scOf f.st).names [] → (∀ a, lent a → own a) → Bd c (f.env L cells) X own lent s.heap s.os s1 (names.zip lvs) →
      W c (n + 1) (execs (bodyOf f.st) (f.env L cells)) (fun fl s' => Q (match fl with | .ret v => v | _ => .none) s') s1) : W c n (call (.ref f.a) vs) Q s :=
  callGB O.ok0 hl hn I hX hlent t (fun kV doc pm an ct => .of_eq (O.bind kV doc pm an ct vs (by rw [t.length, hl]))) body
structure AccK (c : Cx) : Prop where
  ga : findIn c.K (.ref 117) "__getattribute__" = some (some (.builtin "list.__getattribute__"))
  gat : findIn c.K (.ref 117) "__getattr__" = some none
  app : findIn c.K (.ref 117) "append" = some (some (.builtin "list.append"))
  push : findIn c.K (.ref 117) "push" = some (some (.ref 62))
  popf : findIn c.K (.ref 117) "pop_from" = some (some (.ref 70))
  part : findIn c.K (.ref 117) "part_count" = some (some (.ref 114))
  len : findIn c.K (.ref 117) "__len__" = some (some (.ref 84))
  str : findIn c.K (.ref 117) "__str__" = some (some (.ref 91))
  iter : findIn c.K (.ref 117) "__iter__" = some (some (.builtin "list.__iter__"))
  ini : findIn c.K (.ref 117) "_initial_size" = some none
  cls : ∃ cd, clsIn c.K 117 = some cd ∧ cd.hasDict = true
  tapp : typeIn c.K (.builtin "list.append") = some (.type "method_descriptor")
  t62 : typeIn c.K (.ref 62) = some (.type "function")
  t70 : typeIn c.K (.ref 70) = some (.type "function")
  t114 : typeIn c.K (.ref 114) = some (.type "function")
theorem canon_list_ga : (Manifest.canonical "list.__getattribute__" != "object.__getattribute__") = false := by decide +kernel
theorem getMethod_acc {M : Model} {A : Around} {E : Value → Shared → Prop} {s : Shared} {K : Frag} {x C : Addr} {ox : Obj} {od : Option Obj} {name : Str} {f T : Value} {pl : Sem Bool} {Q : Value × List Value → Shared → Prop} (X : K.In s.heap) (I : InstAt s.heap x ox C od) (hga : findIn K (.ref C) "__getattribute__" = some (some (.builtin "list.__getattribute__"))) (hk : findIn K (.ref C) "__getattr__" = some none)
    (hf : findIn K (.ref C) name = some (some f)) (ht : typeIn K f = some T) (hT : (T != .type "function" && T != .type "method_descriptor" && T != .type "wrapper_descriptor") = false) (hs : shadowIn od name = some false) (h : Q (f, [.ref x]) s) :
    wpAny M A (getMethod (.ref x) name pl) Q E s := by
  unfold getMethod specialOf
  refine wpAny_bind (wpAny_bind (I.type.here ((looks_findIn X hga).here ?_)))
  dsimp only
  rw [canon_list_ga, if_neg (by decide)]
  refine wpAny_bind (wpAny_bind (I.type.here ((looks_findIn X hk).here ?_)))
  refine wpAny_bind (wpAny_bind (I.type.here ((looks_findIn X hf).here (wpAny_bind ((looks_typeIn X ht).here ?_)))))
  rw [hT, if_neg (by decide)]
  refine wpAny_bind (wpAny_loadPart I.at_ ?_)
  have hd := I.dict
  cases e : ox.dict with
  | none => exact wpAny_bind (wpAny_rule (wpAny_pure h))
  | some dx =>
    cases od with
    | none => rw [e] at hd; exact hd.elim
    | some o =>
      rw [e] at hd
      obtain ⟨r, a, b⟩ := Option.map_eq_some_iff.mp hs
      refine wpAny_bind (wpAny_bind (wpAny_loadPart hd ?_))
      rw [nsLook_of a]
      refine wpAny_pure ?_
      rw [b]
      exact wpAny_bind (wpAny_rule (wpAny_pure h))
end Mine
end
section
open PySem PySem.W PySem.Calls PyProof.Rows
set_option linter.unusedVariables false
set_option maxRecDepth 100000
namespace Mine
set_option genSizeOf false
set_option genInjectivity false
set_option tactic.hygienic false
section
variable {c : Cx} {n : Nat} {env : Env} {X X₀ own Z : Addr → Prop} {hA : Heap} {os : OsState} {s s' s₀ : Shared} {σ : List (Str × LV)} {d : D} {ds : List D} {pos : Pos} {rest body : List Stmt} {Q : Flow → Shared → Prop}
theorem Bd.lend {x : Str} {lv lv' : LV} (B : Bd c env X₀ own Z hA os s σ) (hx : σ.lookup x = some lv) (k : Kp (fun a => a ∈ lv.addrs) s.heap s'.heap) (Iv : Inv c s') (ho : s'.os = s.os) (hex : ∀ a ∈ lv.addrs, (s'.heap.get? a).isSome = true)
    (had : ∀ a ∈ lv'.addrs, a ∈ lv.addrs) (hok : ∀ v, lv.ok s.heap (fun a => X₀ a ∨ own a) own v → lv'.ok s'.heap (fun a => X₀ a ∨ own a) own v) (hap : ∀ y l b, σ.lookup y = some l → y ≠ x → b ∈ l.addrs → b ∉ lv.addrs) : Bd c env X₀ own Z hA os s' ((x, lv') :: σ) := by
  obtain ⟨vm, F, g⟩ := B.loc
  obtain ⟨v, p1, p2⟩ := g x lv hx
  have hlo : ∀ a ∈ lv.addrs, own a := fun a ha => by
    cases lv with
    | tr d => exact nomatch ha
    | va u => exact nomatch ha
    | ls b ds => have hm : a = b := mem1 ha
                 exact hm ▸ p2.2.1
    | dc b es => have hm : a = b := mem1 ha
                 exact hm ▸ p2.2.1
    | ac b dx ds i0 =>
      have hm : a = b ∨ a = dx := mem2 ha
      rcases hm with rfl | rfl
      · exact p2.2.1
      · exact p2.2.2.1
  have hloc : env.locals ∉ lv.addrs := fun q => (B.dcs x lv _ hx q).1 rfl
  have hcell : ∀ y cc, (y, cc) ∈ env.cells → cc ∉ lv.addrs := fun y cc hc q => (B.dcs x lv _ hx q).2 y cc hc rfl
  exact {
    inv := Iv
    os := ho.trans B.os
    chg := B.chg.trans k fun a h => B.mine a (hlo a h)
    mine := B.mine
    ex := fun a h => by
      by_cases q : a ∈ lv.addrs
      · exact hex a q
      · exact k.there (B.ex a h) q
    far := B.far
    dis := B.dis
    ownL := B.ownL
    ownC := B.ownC
    dcs := fun y l b q hb => by
      rcases lookup_cons_or q with ⟨_, e⟩ | ⟨ne, q⟩
      · subst e; exact B.dcs x lv b hx (had b hb)
      · exact B.dcs y l b q hb
    loc := ⟨vm, F.kp k hloc hcell, fun y l q => by
      rcases lookup_cons_or q with ⟨rfl, rfl⟩ | ⟨ne, q⟩
      · exact ⟨v, p1, hok v p2⟩
      · obtain ⟨u, q1, q2⟩ := g y l q
        exact ⟨u, q1, LV.ok.mv (.kp k fun a h => .inr (hlo a h)) (fun a o h1 h2 e hc => k.get e (hap y l a q ne h1) hc) (fun uu h => h) q2⟩⟩ }
theorem Bd.lacc {x : Str} {a dx : Addr} {i0 : Int} (B : Bd c env X₀ own Z hA os s σ) (h : σ.lookup x = some (.ac a dx ds i0)) : own a ∧ own dx ∧ ∃ vs, AccRaw s.heap a dx vs i0 ∧ TrL s.heap (fun b => X₀ b ∨ own b) ds vs.toList := by
  obtain ⟨vm, _, g⟩ := B.loc
  obtain ⟨v, _, _, p⟩ := g x _ h
  exact p
theorem ev_lacc {x : Str} {a dx : Addr} {i0 : Int} (B : Bd c env X₀ own Z hA os s σ) (hs : σ.lookup x = some (.ac a dx ds i0)) (hk : autoParam (env.scope.kind = .function) tacR) (hx : autoParam (isLC (env.kindOf x) = true) tacR) (hd : autoParam ((x == ("__debug__" : Str)) = false) tacD) :
    EvV c n s (eval (.Name x pos) env) (.ref a) := fun s' e I =>
  ld_name (B.ext e I) hk hx hs (fun v ok => ⟨.refl _, I, ok.1⟩) hd
theorem AccRaw.inst {h : Heap} {a dx : Addr} {vs : Array Value} {i0 : Int} (x : AccRaw h a dx vs i0) : ∃ n od, InstAt h a (accO dx vs n) 117 (some od) ∧ (∃ t, lookIn "_initial_size" od = some (some (.int i0 t))) ∧ ∀ x : Str, x ≠ "_initial_size" → lookIn x od = some none := by
  obtain ⟨_, _, ⟨n, h1⟩, od, t, h2, h3, h4, h5⟩ := x
  exact ⟨n, od, ⟨h1, rfl, rfl, h2⟩, ⟨t, h4⟩, h5⟩
theorem call_accB {A : Around} {E : Value → Shared → Prop} {Q : Value → Shared → Prop} {id nm : String} {Bi : Builtin} {a dx : Addr} {vs : Array Value} {i0 : Int} {r : List Value} (I : Inv c s) (h : AccRaw s.heap a dx vs i0) (hk : builtinKind id = some .slot ∨ builtinKind id = some .method) (hs : splitId id = some ("list", nm)) (hp : plainId id = true) (hb : entryFor table id = some Bi)
    (hsub : subIn c.K (.ref 117) (.type "list") = some true) (ha : argsOk id ⟨.ref a :: r, []⟩) (hc : wpAny (model PR c.w) A.in1 (Bi ⟨.ref a :: r, []⟩) (fun fin s' => ∃ v, fin = .done (.ret v) ∧ Q v s') E s) : wpAny (model PR c.w) A (call (.builtin id) (.ref a :: r)) Q E s := by
  obtain ⟨n, od, It, _⟩ := h.inst
  have hi : Looks (model PR c.w) s.heap (isInstance (.ref a) (.type "list")) true := It.type.andThen (looks_subIn I.kin hsub)
  refine wpAny_call (codeAny_call_builtin hp hb ?_)
  have fin : wpAny (model PR c.w) A.in1 (Bi ⟨.ref a :: r, []⟩) (fun fin s' => match fin with | .done f => wants Q E (.ok f) s' | .again c' => c'.quiet = true ∧ codeAny (model PR c.w) A c' (wants Q E) s') (fun e s' => wants Q E (.error e) s') s :=
    wpAny_mono hc (fun fin s' h' => by obtain ⟨v, rfl, hv⟩ := h'; exact hv) fun uu uu h' => h'
  rcases hk with hk | hk
  · exact check_slot hk hs hi ha fin
  · unfold checkBuiltinCall
    rw [hk, hs]
    dsimp only
    refine wpAny_bind (hi.here ?_)
    rw [Bool.not_true, if_neg Bool.false_ne_true]
    cases hsig : Manifest.signature? id with
    | none => exact wpAny_pure fin
    | some sig =>
      simp only [argsOk, hsig] at ha
      have h2 : Bind.checkArgs id sig ⟨.ref a :: r, []⟩ = pure () := ha
      show wpAny _ _ (Bind.checkArgs id sig ⟨.ref a :: r, []⟩) _ _ s
      rw [h2]; exact wpAny_pure fin
theorem acc_append {A : Around} {Q : Value → Shared → Prop} {a dx : Addr} {vs : Array Value} {i0 : Int} {u : Value} (I : Inv c s) (h : AccRaw s.heap a dx vs i0) (hsub : subIn c.K (.ref 117) (.type "list") = some true) (hsz : vs.size ≤ 100000)
    (hq : ∀ h', Heap.SameBut a s.heap h' → AccRaw h' a dx (vs.push u) i0 → Q .none { s with heap := h' }) : wpAny (model PR c.w) A (call (.builtin "list.append") [.ref a, u]) Q NoE s := by
  obtain ⟨f1, f2, ⟨n, h1⟩, od, t, h2, h3, h4, h5⟩ := id h
  refine call_accB I h (.inr (by decide +kernel)) (nm := "append") (by decide +kernel) slot_list_append.plain entry_list_append hsub (args_list_append _ _) ?_
  show wpAny _ _ (updateSeq a (·.push u) >>= fun uu => ret .none) _ _ s
  refine wpAny_bind (wpAny_updateSeq h1 rfl (wpAny_pure ⟨.none, rfl, hq _ (.update ..) ?_⟩) (by show _ ≤ 2 ^ 24; omega) (by show (vs.push u).size ≤ 2 ^ 24 + 1; simp; omega))
  have ne : dx ≠ a := fun q => by
    rw [q, h1] at h2; cases h2
    exact nomatch h3
  obtain ⟨m, hm⟩ : ∃ m, Obj.mapSeq (·.push u) (accO dx vs n) = accO dx (vs.push u) m := by unfold Obj.mapSeq; exact ⟨_, rfl⟩
  exact ⟨f1, f2, ⟨m, (Heap.get?_update_self _ h1 (by rw [hm]; rfl)).trans (by rw [hm])⟩, od, t, (Heap.get?_update_other _ _ (Ne.symm ne)).trans h2, h3, h4, h5⟩
end
end Mine
end
section
open PySem PySem.W PySem.Calls PyProof.Rows
set_option linter.unusedVariables false
set_option maxRecDepth 100000
namespace Mine
set_option genSizeOf false
set_option genInjectivity false
set_option tactic.hygienic false

noncomputable def cardI (l : Int × Int × Int) (i : Int) : Int := if i = 0 then l.1 else if i = 1 then l.2.1 else l.2.2
noncomputable def cardD (l : Int × Int × Int) : D := .tup [.int l.1, .int l.2.1, .int l.2.2]
noncomputable def cmpF : List (Int × Int) → (Int × Int × Int) → (Int × Int × Int) → Int
  | [], u1, u2 => 0
  | p :: es, l, r => if cardI l p.1 < cardI r p.1 then -p.2 else if cardI r p.1 < cardI l p.1 then p.2 else cmpF es l r

theorem ok_compare : R_compare.Ok ["self", "left", "right"] where
  mem := inF 8 rfl
  cl := rfl
  bind := fun kV doc pm an ct vs h => by
    obtain ⟨a, b, d, rfl⟩ := len3 h
    rfl
  kinds := by rfl
  nodup := by decide
  cnodup := by decide
  celled := by rfl
  co := rfl
  gen := rfl
  fun_ := rfl

theorem compare_fn {c : Cx} (O : c.Ok) (es : List (Int × Int)) (l r : Int × Int × Int) (hes : ∀ p ∈ es, p.1 = 0 ∨ p.1 = 1 ∨ p.1 = 2) : Fn c 12 (.ref 149) [.cmp es, cardD l, cardD r] (.int (cmpF es l r)) := by
  refine Fn.intro (f := R_compare) ok_compare rfl (by decide) fun X₀ own s₀ s L cells hc B => ?_
  refine st_for (ds := es.map prD) (fun uu => own) (fun uu => [("left", .tr (cardD l)), ("right", .tr (cardD r))]) (fun rest (x : List (Int × Int)) => rest = x.map prD ∧ cmpF es l r = cmpF x l r ∧ ∀ p ∈ x, p.1 = 0 ∨ p.1 = 1 ∨ p.1 = 2) es (fun d => d = .int (cmpF es l r))
    B (ei_list (ev_sel O (ev_loc B rfl))) ⟨rfl, rfl, hes⟩ rfl ?_ ?_ ?_ ?_
  · exact (pk rfl (pk rfl pk0))
  · intro Q' d rest x X₁ hB s1 hQ hR zp B1 v tv
    obtain ⟨hx, hc, hm⟩ := zp
    cases x with
    | nil => cases hx
    | cons p x =>
    injection hx with h1 h2
    subst h1
    refine use_tuple ["index", "direction"] B1 tv fun s2 B2 => ?_
    have hp := hm p (by simp)
    have item : ∀ {s : Shared} {σ : List (Str × LV)} {y : Str} {yp ip pos : Pos} {q : Int × Int × Int}, Bd c (R_compare.env L cells) X₁ own own hB s₀.os s σ → σ.lookup y = some (.tr (cardD q)) → σ.lookup ("index" : Str) = some (LV.tr (.int p.1)) → (y = "left" ∨ y = "right") →
        EvD c 13 (fun a => X₁ a ∨ own a) s (eval (.Subscript (.Name y yp) (.Name "index" ip) pos) (R_compare.env L cells)) (.int (cardI q p.1)) := by
      intro s σ y yp ip pos q B h1 h2 hy
      have e1 : EvD c 13 (fun a => X₁ a ∨ own a) s (eval (.Name y yp) (R_compare.env L cells)) (cardD q) := by
        rcases hy with rfl | rfl
        · exact ev_loc B h1
        · exact ev_loc B h1
      have e2 := ev_loc (n := 13) (pos := ip) B h2
      rcases hp with h | h | h <;> rw [h] at e2 ⊢
      · exact ev_item_tup (j := 0) e1 e2 (by decide) (by decide) rfl rfl
      · exact ev_item_tup (j := 1) e1 e2 (by decide) (by decide) rfl rfl
      · exact ev_item_tup (j := 2) e1 e2 (by decide) (by decide) rfl rfl
    refine st_assign B2 (item B2 rfl rfl (.inl rfl)) fun s3 B3 => ?_
    refine st_assign B3 (item B3 rfl rfl (.inr rfl)) fun s4 B4 => ?_
    have R : cmpF es l r = if cardI l p.1 < cardI r p.1 then -p.2 else if cardI r p.1 < cardI l p.1 then p.2 else cmpF x l r := hc
    refine st_if B4.inv (ev_test (ev_loc B4 rfl) (ev_loc B4 rfl) cmp_lt) (fun hb s5 E5 I5 => ?_) (fun hb s5 E5 I5 => ?_)
    · have hlt := of_decide_eq_true hb
      rw [if_pos hlt] at R
      exact st_ret (B4.ext E5 I5) ((ev_neg (ev_loc (B4.ext E5 I5) rfl)).less fun a h => .inl h) fun u s' h => hR _ _ _ (by rw [R]) h
    · have hlt := of_decide_eq_false hb
      rw [if_neg hlt] at R
      refine st_nil ?_
      have B5 := B4.ext E5 I5
      refine st_if B5.inv (ev_test (ev_loc B5 rfl) (ev_loc B5 rfl) cmp_gt) (fun hb s6 E6 I6 => ?_) (fun hb s6 E6 I6 => ?_)
      · have hgt := of_decide_eq_true hb
        rw [if_pos hgt] at R
        exact st_ret (B5.ext E6 I6) ((ev_loc (B5.ext E6 I6) rfl).less fun a h => .inl h) fun u s' h => hR _ _ _ (by rw [R]) h
      · have hgt := of_decide_eq_false hb
        rw [if_neg hgt] at R
        refine st_nil (st_nil ?_)
        exact hQ x _ ⟨h2, R, fun q hq => hm q (List.mem_cons_of_mem _ hq)⟩ ((B5.ext E6 I6).pick (pk rfl (pk rfl pk0)))
  · intro x s1 zp B1
    obtain ⟨hx, hc, _⟩ := zp
    cases x with
    | cons p x => cases hx
    | nil => exact st_ret B1 (hc ▸ ev_int) fun uu uu z => z
  · intro d v s' hd h
    subst hd
    exact h
end Mine
end
section
open PySem PySem.W PySem.Calls PyProof.Rows
set_option linter.unusedVariables false
set_option maxRecDepth 100000
namespace Mine
set_option genSizeOf false
set_option genInjectivity false
set_option tactic.hygienic false
section
variable {c : Cx} {n : Nat} {env : Env} {X X₀ own Z : Addr → Prop} {hA : Heap} {os : OsState} {s s' : Shared} {σ : List (Str × LV)} {d : D} {ds : List D} {pos : Pos} {rest body : List Stmt} {Q : Flow → Shared → Prop}

theorem Ext.upd (s : Shared) (t : Tok) : Ext s { s with toks := t } := ⟨.refl _, rfl⟩
theorem bin_adds {x y : Str} (h : x.length + y.length ≤ 100000) : BinD c n .Add (.str x) (.str y) (.str (x ++ y)) := fun X s v1 v2 I uu zp1 zp2 => by
  obtain ⟨t, e1⟩ := zp1
  obtain ⟨u, e2⟩ := zp2
  subst e1 e2
  exact add_str (fun t' tk => ⟨.upd _ _, I.toks _, _, rfl⟩) (by show _ ≤ 2 ^ 24; omega)
theorem bin_fdiv {a b : Int} (hb : 0 < b) (hb' : b < 1000000000) : BinD c n .FloorDiv (.int a) (.int b) (.int (a / b)) := fun X s v1 v2 I uu zp1 zp2 => by
  obtain ⟨t, e1⟩ := zp1
  obtain ⟨u, e2⟩ := zp2
  subst e1 e2
  refine floordiv_int (by omega) ?_ (.inl (PyProof.noPylong_small (by omega)))
  rw [Int.fdiv_eq_ediv_of_nonneg _ (by omega)]
  exact ⟨.upd _ _, I.toks _, _, rfl⟩
theorem bin_mod {a b : Int} (hb : 0 < b) : BinD c n .Mod (.int a) (.int b) (.int (a % b)) := fun X s v1 v2 I uu zp1 zp2 => by
  obtain ⟨t, e1⟩ := zp1
  obtain ⟨u, e2⟩ := zp2
  subst e1 e2
  refine mod_int (by omega) ?_
  rw [Int.fmod_eq_emod_of_nonneg _ (by omega)]
  exact ⟨.upd _ _, I.toks _, _, rfl⟩
theorem bin_mul {a b : Int} (ha : 0 ≤ a ∧ a < 1000000) (hb : 0 ≤ b ∧ b < 1000000) : BinD c n .Mult (.int a) (.int b) (.int (a * b)) := fun X s v1 v2 I uu zp1 zp2 => by
  obtain ⟨t, e1⟩ := zp1
  obtain ⟨u, e2⟩ := zp2
  subst e1 e2
  exact mul_int (Q := fun v s' => Ez c s s' (Tr s'.heap X (.int (a * b)) v)) ⟨.upd _ _, I.toks _, _, rfl⟩
noncomputable def sgn (k : Nat) : Str := ⟨(List.replicate k 115).toArray⟩
theorem bin_sgn {k : Nat} (hk : k ≤ 8) : BinD c n .Mult (.str "s") (.int k) (.str (sgn k)) := fun X s v1 v2 I uu zp1 zp2 => by
  obtain ⟨t, e1⟩ := zp1
  obtain ⟨u, e2⟩ := zp2
  subst e1 e2
  refine P.mul_str (by rw [Bool.or_eq_false_iff]; exact ⟨decide_eq_false (by omega), decide_eq_false (by omega)⟩) (fun uu uu => ?_) (fun uu uu => ?_) ?_
  · have : ((("s" : Str).length : Nat) : Int) = 1 := by rfl
    rw [this]
    have : (1 : Int) ≤ (2 ^ 63 - 1) / k := by
      by_cases h0 : k = 0
      · subst h0; exact absurd (by decide) ‹¬ ((0 : Nat) : Int) < 1›
      · exact (Int.le_ediv_iff_mul_le (by omega)).mpr (by omega)
    omega
  · have : ("s" : Str).length = 1 := by rfl
    rw [this]
    unfold Builtin.Str.tooLong
    exact decide_eq_false (by show ¬ (_ > 2 ^ 24); omega)
  · obtain h | h | h | h | h | h | h | h | h : k = 0 ∨ k = 1 ∨ k = 2 ∨ k = 3 ∨ k = 4 ∨ k = 5 ∨ k = 6 ∨ k = 7 ∨ k = 8 := by omega
    · subst h; exact ⟨by decide, .upd _ _, I.toks _, _, rfl⟩
    · subst h; exact ⟨.refl _, I, _, rfl⟩
    all_goals (subst h; exact ⟨by decide, .upd _ _, I.toks _, _, rfl⟩)
theorem cmp_eqs {x y : Str} : CmpD c n .Eq (.str x) (.str y) (x == y) := fun X s v1 v2 I zp1 zp2 => by obtain ⟨t, e1⟩ := zp1; obtain ⟨u, e2⟩ := zp2; subst e1 e2; exact eq_str ⟨.refl _, I, rfl⟩
theorem cmp_nes {x y : Str} : CmpD c n .NotEq (.str x) (.str y) (x != y) := fun X s v1 v2 I zp1 zp2 => by obtain ⟨t, e1⟩ := zp1; obtain ⟨u, e2⟩ := zp2; subst e1 e2; exact ne_str ⟨.refl _, I, rfl⟩
noncomputable def D.isNone : D → Bool
  | .none => true
  | .val .none => true
  | _ => false
theorem cmp_isNone {d : D} (hd : ∀ v, d ≠ .val v) : CmpD c n .Is d .none d.isNone := fun X s v1 v2 I t1 e2 => by
  have e2 : v2 = .none := e2
  subst e2
  refine is_none_gen ⟨.refl _, I, ?_⟩
  cases d with
  | none => rw [show v1 = .none from t1]; rfl
  | bool b => rw [show v1 = .bool b from t1]; rfl
  | int b => obtain ⟨t, rfl⟩ := t1; rfl
  | str b => obtain ⟨t, rfl⟩ := t1; rfl
  | tup l => obtain ⟨t, vs, rfl, _⟩ := t1; rfl
  | lst l => obtain ⟨t, vs, rfl, _⟩ := t1; rfl
  | dct l => obtain ⟨t, rfl, _⟩ := t1; rfl
  | cmp l => obtain ⟨t, rfl, _⟩ := t1; rfl
  | acc l i => obtain ⟨a, dx, vs, rfl, _⟩ := t1; rfl
  | val v => exact absurd rfl (hd v)
theorem ev_ifexp {test bod orl : Expr} {b : Bool} (h : EvB c n s (isTrue test env (eval test env)) b) (h1 : b = true → EvD c n X s (eval bod env) d) (h2 : b = false → EvD c n X s (eval orl env) d) : EvD c n X s (eval (.IfExp test bod orl pos) env) d := fun s' e I => by
  refine wpAny_IfExp (wz (h s' e I) (fun u s1 e1 I1 r => ?_))
  subst r
  cases u with
  | true => exact wz (h1 rfl s1 (e.trans e1) I1) (fun v s2 e2 I2 t2 => ⟨e1.trans e2, I2, t2⟩)
  | false => exact wz (h2 rfl s1 (e.trans e1) I1) (fun v s2 e2 I2 t2 => ⟨e1.trans e2, I2, t2⟩)

noncomputable def EvP (c : Cx) (n : Nat) (s₀ : Shared) (e : Option Expr) (env : Env) (i : Option Int) : Prop := Ev c n s₀ (evalPart e env) (fun uu v => ∃ t, v = partValue (i.map fun i => (i, t)))
theorem evp_none : EvP c n s none env none := fun s' e I => evalPart_none_step ⟨.refl _, I, 0, rfl⟩
theorem evp_some {e : Expr} {i : Int} (h : EvD c n X s (eval e env) (.int i)) : EvP c n s (some e) env (some i) := fun s' k I => evalPart_some_step (wz (h s' k I) (fun v s1 e1 I1 zr => by obtain ⟨t, r⟩ := zr; exact ⟨e1, I1, t, r⟩))
theorem ev_sslice {value : Expr} {lower upper : Option Expr} {p : Pos} {x : Str} {i j : Option Int} (h : EvD c n X s (eval value env) (.str x)) (h1 : EvP c n s lower env i) (h2 : EvP c n s upper env j) (hsz : x.length ≤ 100000)
    (ht : autoParam (∀ o r, letTemporaryGo value o r = pure ()) tacI) : EvD c n X s (eval (.Subscript value (.Slice lower upper none p) pos) env) (.str (Txt.slice x i j)) := fun s' e I => by
  refine wpAny_Subscript_str_slice (wz (h s' e I) (fun v s1 e1 I1 zq => wz (h1 s1 (e.trans e1) I1) (fun vl s2 e2 I2 zq2 => wz (h2 s2 ((e.trans e1).trans e2) I2) (fun vu s3 e3 I3 zr => ?_)))) ht
  obtain ⟨tu, r3⟩ := zr
  obtain ⟨tl, r2⟩ := zq2
  obtain ⟨t, r⟩ := zq
  refine ⟨x, t, i.map fun i => (i, tl), j.map fun j => (j, tu), r, r2, r3, ?_⟩
  have E : Ext s' { s3 with heap := s3.heap.push { cls := .type "slice", data := .fields #[vl, vu, .none] } } := ((e1.trans e2).trans e3).trans (ext_push _ _)
  have I4 : Inv c { s3 with heap := s3.heap.push { cls := .type "slice", data := .fields #[vl, vu, .none] } } := I3.keep (Keep.push _ _) I3.bare
  have key := post_val_or_str (s := { s3 with heap := s3.heap.push { cls := .type "slice", data := .fields #[vl, vu, .none] } }) (t := t) (Q := fun v s'' => Ez c s' s'' (Tr s''.heap X (.str (Txt.slice x i j)) v))
    (c := ((1 : Int) == 1 && (Builtin.Str.strSliceIndices i j 1 x.length).length == x.length) = true) (y := x) (z := ⟨((Builtin.Str.strSliceIndices i j 1 x.length).filterMap (x.cps[·]?)).toArray⟩)
    ⟨Nat.le_trans (Txt.slice_le x i j) (by show _ ≤ 2 ^ 24; omega), fun t' k => ⟨E.trans (.upd _ _), I4.toks _, t', rfl⟩⟩
  cases i <;> cases j <;> exact key
end
end Mine
end
section
open PySem PySem.W PySem.Calls PyProof.Rows
set_option linter.unusedVariables false
set_option maxRecDepth 100000
namespace Mine
set_option genSizeOf false
set_option genInjectivity false
set_option tactic.hygienic false
set_option maxHeartbeats 4000000 in
theorem meets3 (a nm : Str) (p : Int) (t ta tp tn : Tok) (b : Addr) (ha : a.length ≤ 1000) (hp0 : 0 ≤ p) (hp1 : p < 10 ^ 10) (hn : nm.length ≤ 1000) :
    Meets (Builtin.«str.__mod__» ⟨[.str ⟨#[37, 115, 58, 37, 100, 40, 37, 115, 41]⟩ t, .ref b], []⟩) (fun uu R s => IsTup s.heap b #[.str a ta, .int p tp, .str nm tn] ∧ ∀ t' k, R (.ok (.ret (.str (a ++ ":" ++ Str.ofString (toString p) ++ "(" ++ nm ++ ")") t'))) { s with toks := k }) := by
  have hd : p.natAbs.log2 < 1920 := shown (N := 2 ^ 1920) (by omega) (by omega) (Int.le_refl _)
  kpt_run
set_option maxHeartbeats 4000000 in
theorem meetsS (z : Str) (t u : Tok) (hz : z.length ≤ 1000000) :
    Meets (Builtin.«str.__mod__» ⟨[.str ⟨#[123, 37, 115, 125]⟩ t, .str z u], []⟩) (fun uu R s => ∀ t' k, R (.ok (.ret (.str ("{" ++ z ++ "}") t'))) { s with toks := k }) := by
  have := hz
  kpc_run_s
end Mine
end
section
open PySem PySem.W PySem.Calls PyProof.Rows
set_option linter.unusedVariables false
set_option maxRecDepth 100000
namespace Mine
set_option genSizeOf false
set_option genInjectivity false
set_option tactic.hygienic false

mutual
noncomputable def D.py : D → PyData
  | .none => .none
  | .bool b => .bool b
  | .int i => .int i
  | .str x => .str x
  | .tup l => .tuple (D.pys l)
  | .lst l => .list (D.pys l)
  | .dct _ => .none
  | .cmp _ => .none
  | .acc _ _ => .none
  | .val _ => .none
noncomputable def D.pys : List D → List PyData
  | [] => []
  | d :: l => d.py :: D.pys l
end
mutual
noncomputable def D.plain : D → Bool
  | .none => true
  | .bool _ => true
  | .int _ => true
  | .str x => PySem.PyData.strOk x
  | .tup l => D.plains l
  | .lst l => D.plains l
  | _ => false
noncomputable def D.plains : List D → Bool
  | [] => true
  | d :: l => d.plain && D.plains l
end
mutual
theorem Tr.reads {h : Heap} {X : Addr → Prop} : ∀ (d : D) (v : Value), d.plain = true → Tr h X d v → ∃ as, Reads h v d.py as
  | .none, u1, u2, e => by rw [show _ = Value.none from e]; exact ⟨_, .none⟩
  | .bool b, u1, u2, e => by rw [show _ = Value.bool b from e]; exact ⟨_, .bool b⟩
  | .int i, u1, u2, x => by
    obtain ⟨t, e⟩ := x
    rw [e]; exact ⟨_, .int i t⟩
  | .str y, u1, u2, x => by
    obtain ⟨t, e⟩ := x
    rw [e]; exact ⟨_, .str y t⟩
  | .tup l, u1, p, x => by
    obtain ⟨a, vs, e, _, ⟨n, ho⟩, t⟩ := x
    obtain ⟨as, r⟩ := TrL.reads l _ p t
    rw [e]; exact ⟨_, .tuple ho rfl rfl r⟩
  | .lst l, u1, p, x => by
    obtain ⟨a, vs, e, _, ⟨n, ho⟩, t⟩ := x
    obtain ⟨as, r⟩ := TrL.reads l _ p t
    rw [e]; exact ⟨_, .list ho rfl rfl r⟩
  | .dct u1, u2, p, u3 => by cases p
  | .cmp u1, u2, p, u3 => by cases p
  | .acc u1 u2, u3, p, u4 => by cases p
  | .val u1, u2, p, u3 => by cases p
theorem TrL.reads {h : Heap} {X : Addr → Prop} : ∀ (l : List D) (vs : List Value), D.plains l = true → TrL h X l vs → ∃ as, ReadsAll h vs (D.pys l) as
  | [], u1, u2, e => by rw [show _ = [] from e]; exact ⟨_, .nil⟩
  | d :: l, u1, p, zp => by
    obtain ⟨v, r, e, t1, t2⟩ := zp
    have p : (d.plain && D.plains l) = true := p
    obtain ⟨p1, p2⟩ := Bool.and_eq_true_iff.mp p
    obtain ⟨as, r1⟩ := Tr.reads d v p1 t1
    obtain ⟨bs, r2⟩ := TrL.reads l r p2 t2
    rw [e]; exact ⟨_, .cons r1 r2⟩
end
mutual
theorem D.lay : ∀ (d : D), d.plain = true → d.py.canLay0 = true
  | .none, u1 => rfl
  | .bool u1, u2 => rfl
  | .int u1, u2 => rfl
  | .str u1, p => p
  | .tup l, p => D.lays l p
  | .lst l, p => D.lays l p
  | .dct u1, p => by cases p
  | .cmp u1, p => by cases p
  | .acc u1 u2, p => by cases p
  | .val u1, p => by cases p
theorem D.lays : ∀ (l : List D), D.plains l = true → PyData.canLayAll0 (D.pys l) = true
  | [], u1 => rfl
  | d :: l, p => by
    have p : (d.plain && D.plains l) = true := p
    obtain ⟨p1, p2⟩ := Bool.and_eq_true_iff.mp p
    show (d.py.canLay0 && PyData.canLayAll0 (D.pys l)) = true
    rw [D.lay d p1, D.lays l p2]; rfl
end
mutual
noncomputable def D.dep : D → Nat
  | .tup l => D.deps l + 1
  | .lst l => D.deps l + 1
  | _ => 0
noncomputable def D.deps : List D → Nat
  | [] => 0
  | d :: l => max d.dep (D.deps l)
end
mutual
theorem D.depth : ∀ (d : D), d.py.depth = d.dep
  | .none => rfl
  | .bool _ => rfl
  | .int _ => rfl
  | .str _ => rfl
  | .tup l => by show PyData.depthAll (D.pys l) + 1 = _; rw [D.depths l]; rfl
  | .lst l => by show PyData.depthAll (D.pys l) + 1 = _; rw [D.depths l]; rfl
  | .dct _ => rfl
  | .cmp _ => rfl
  | .acc _ _ => rfl
  | .val _ => rfl
theorem D.depths : ∀ (l : List D), PyData.depthAll (D.pys l) = D.deps l
  | [] => rfl
  | d :: l => by show max d.py.depth (PyData.depthAll (D.pys l)) = _; rw [D.depth d, D.depths l]; rfl
end
mutual
theorem D.eqv_refl : ∀ (d : D), d.plain = true → PyData.eqv d.py d.py = true
  | .none, u1 => rfl
  | .bool u1, u2 => beq_self_eq_true _
  | .int u1, u2 => beq_self_eq_true _
  | .str u1, u2 => beq_self_eq_true _
  | .tup l, p => D.eqv_refls l p
  | .lst l, p => D.eqv_refls l p
  | .dct u1, p => by cases p
  | .cmp u1, p => by cases p
  | .acc u1 u2, p => by cases p
  | .val u1, p => by cases p
theorem D.eqv_refls : ∀ (l : List D), D.plains l = true → PyData.eqvAll (D.pys l) (D.pys l) = true
  | [], u1 => rfl
  | d :: l, p => by
    have p : (d.plain && D.plains l) = true := p
    obtain ⟨p1, p2⟩ := Bool.and_eq_true_iff.mp p
    show (PyData.eqv d.py d.py && PyData.eqvAll (D.pys l) (D.pys l)) = true
    rw [D.eqv_refl d p1, D.eqv_refls l p2]; rfl
end
structure D.Ok (d : D) : Prop where
  plain : d.plain = true
  dep : d.dep ≤ 60
theorem D.Ok.shaped {d : D} (h : d.Ok) : SeqAt.shaped d.py = true := by
  unfold SeqAt.shaped
  rw [D.lay d h.plain, D.depth d, Bool.true_and]
  exact decide_eq_true (by have := h.dep; omega)
section
variable {c : Cx} {n : Nat} {env : Env} {X X₀ own Z : Addr → Prop} {hA : Heap} {os : OsState} {s s' : Shared} {σ : List (Str × LV)} {d : D} {ds : List D} {pos : Pos} {rest body : List Stmt} {Q : Flow → Shared → Prop}
theorem room (n : Nat) (hn : n ≤ 40) : (AL n).units + 64 < cLine := by
  show 200 + 200 * n + 64 < 9900
  omega
theorem cmp_eqd {d1 d2 : D} (h1 : d1.Ok) (h2 : d2.Ok) (hn : n ≤ 40) : CmpD c n .Eq d1 d2 (PyData.eqv d1.py d2.py) := fun X s v1 v2 I t1 t2 => by
  obtain ⟨as, r1⟩ := Tr.reads d1 v1 h1.plain t1
  obtain ⟨bs, r2⟩ := Tr.reads d2 v2 h2.plain t2
  exact eq_dataH r1 r2 h1.shaped h2.shaped (room n hn) ⟨.refl _, I, rfl⟩
theorem cmp_ned {d1 d2 : D} (h1 : d1.Ok) (h2 : d2.Ok) (hn : n ≤ 40) : CmpD c n .NotEq d1 d2 (!PyData.eqv d1.py d2.py) := fun X s v1 v2 I t1 t2 => by
  obtain ⟨as, r1⟩ := Tr.reads d1 v1 h1.plain t1
  obtain ⟨bs, r2⟩ := Tr.reads d2 v2 h2.plain t2
  exact ne_dataH r1 r2 h1.shaped h2.shaped (room n hn) ⟨.refl _, I, rfl⟩

theorem adjust_upto (b n : Nat) (hb : b ≤ n) : Builtin.Slice.sliceAdjust none (some (b : Int)) 1 (n : Int) = (0, (b : Int)) := by
  unfold Builtin.Slice.sliceAdjust
  have h1 : ¬ ((1 : Int) < 0) := by omega
  have h2 : ¬ ((b : Int) < 0) := by omega
  simp only [h1, h2, if_false]
  congr 1
  omega
theorem sliceApplied_upto {A : Around} {E : Value → Shared → Prop} {sl : Addr} {b n : Nat} {u : Tok} {Q : Int × Int × Nat → Shared → Prop} (hs : s.heap.IsSliceOf sl .none (.int b u) .none) (hb : b ≤ n) (h : Q (0, 1, b) s) :
    wpAny (model PR c.w) A (Builtin.Slice.sliceApplied (.ref sl) (pure (n : Int))) Q E s := by
  obtain ⟨os, hos, hcs, hds⟩ := id hs
  unfold Builtin.Slice.sliceApplied Builtin.Slice.sliceFields
  refine wpAny_bind (wpAny_bind (wpAny_field hos hds (x := .none) rfl (wpAny_bind (wpAny_field hos hds (x := .int b u) rfl (wpAny_bind (wpAny_field hos hds (x := .none) rfl (wpAny_pure ?_)))))))
  refine wpAny_bind (slicePart_none ?_)
  show wpAny _ _ (if ((1 : Int) == 0) = true then _ else _) _ _ s
  rw [if_neg (by decide)]
  refine wpAny_bind (slicePart_none (wpAny_bind (slicePart_int (wpAny_bind (wpAny_pure ?_)))))
  show wpAny _ _ (match Builtin.Slice.sliceAdjust none (some (b : Int)) 1 (n : Int) with | (lo, hi) => pure (lo, (1 : Int), Builtin.Slice.slicePlaces lo hi 1)) _ _ s
  rw [adjust_upto b n hb]
  have : Builtin.Slice.slicePlaces 0 (b : Int) 1 = b := by
    unfold Builtin.Slice.slicePlaces
    simp only [Int.zero_lt_one, gt_iff_lt, if_true, Int.ediv_one]
    split <;> omega
  show wpAny _ _ (pure ((0 : Int), (1 : Int), Builtin.Slice.slicePlaces 0 (b : Int) 1)) _ _ s
  rw [this]
  exact wpAny_pure h
theorem getItem_tuple_upto {A : Around} {E : Value → Shared → Prop} {t sl : Addr} {items : Array Value} {b : Nat} {u : Tok} {Q : Value → Shared → Prop} (ht : IsTup s.heap t items) (hs : s.heap.IsSliceOf sl .none (.int b u) .none) (hb : b < items.size)
    (h : Q (.ref s.heap.objs.size) { s with heap := s.heap.push { cls := .type "tuple", data := .seq (items.toList.take b).toArray } })
    (hsz : items.size ≤ 100000) : wpAny (model PR c.w) A (getItem (.ref t) (.ref sl)) Q E s := by
  have htake : sizeOk (.seq (items.toList.take b).toArray) := by
    show (items.toList.take b).toArray.size ≤ 2 ^ 24
    rw [List.size_toArray, List.length_take, Array.length_toList]
    omega
  obtain ⟨os, hos, hcs, hds⟩ := id hs
  have hTs : s.TypeIs (.ref sl) "slice" := ⟨os, hos, hcs⟩
  unfold getItem
  try with_reducible refine wpAny_holding ?_
  first | refine wpAny_bind (wpAny_pure ?_) | skip
  refine wpAny_bind (wpAny_sequenceKey ht.typeIs (by decide) ?_)
  refine wpAny_bind (wpAny_callSpecial?_slot (name := Str.ofString "__getitem__") ht.typeIs slot_tuple_getitem
    (wpAny_call_entry slot_tuple_getitem ht.typeIs entry_tuple_getitem ?_ (args_tuple_getitem _ _)))
  show wpAny _ _ (Builtin.Tuple.tupleItemsOf (.ref t) >>= _) _ _ s
  refine wpAny_bind (tupleItemsOf_ ht ?_)
  refine wpAny_bind (wpAny_typeOf hTs ?_)
  rw [if_pos (by decide)]
  refine wpAny_bind (sliceApplied_upto hs (Nat.le_of_lt hb) ?_)
  have hno : ¬ (((0 : Int) == 0 && (1 : Int) == 1 && b == items.size) = true) := by
    have : (b == items.size) = false := by rw [beq_eq_false_iff_ne]; omega
    rw [this]; simp
  show wpAny _ _ (if ((0 : Int) == 0 && (1 : Int) == 1 && b == items.size) = true then _ else _) _ _ s
  have pk : ((List.range b).filterMap fun (k : Nat) => items[((0 : Int) + (k : Int) * 1).toNat]?).toArray = (items.toList.take b).toArray := by
    have e : (fun (k : Nat) => items[((0 : Int) + (k : Int) * 1).toNat]?) = fun k => items[0 + k]? := by
      funext k
      have : ((0 : Int) + (k : Int) * 1).toNat = 0 + k := by omega
      rw [this]
    rw [e]
    have := pick_run items 0 b
    rw [List.filterMap_map] at this
    have e2 : ((fun x => items[x]?) ∘ fun x => 0 + x) = fun k => items[0 + k]? := rfl
    rw [e2] at this
    rw [this]; simp
  rw [if_neg hno, pk]
  first
    | exact wpAny_bind (m := Builtin.Tuple.tupleExact _) (wpAny_newObj_type (wpAny_pure ⟨_, rfl, wpAny_pure h⟩) htake)
    | exact wpAny_bind (m := Builtin.Tuple.tupleExact _) (wpAny_newObj_type (wpAny_bind (wpAny_pure (wpAny_pure ⟨_, rfl, wpAny_pure h⟩))) htake)
    | exact wpAny_bind (wpAny_bind (m := Builtin.Tuple.tupleExact _) (wpAny_newObj_type (wpAny_pure (wpAny_pure ⟨_, rfl, wpAny_pure h⟩)) htake))
    | exact wpAny_bind (wpAny_bind (m := Builtin.Tuple.tupleExact _) (wpAny_newObj_type (wpAny_pure ⟨_, rfl, wpAny_pure h⟩) htake))
theorem ev_tslice {value upper : Expr} {p : Pos} {b : Nat} (hX : ∀ a, X a → (s.heap.get? a).isSome = true) (h : EvD c n X s (eval value env) (.tup ds)) (h2 : EvD c n X s (eval upper env) (.int b)) (hb : b < ds.length) (hsz : ds.length ≤ 1000)
    (ht : autoParam (∀ o r, letTemporaryGo value o r = pure ()) tacI) : EvD c n X s (eval (.Subscript value (.Slice none (some upper) none p) pos) env) (.tup (ds.take b)) := fun s' e I => by
  refine wpAny_Subscript_Slice (T := "tuple") F.slot_tuple_getitem.lookup (wz (h s' e I) (fun v s1 e1 I1 t => wpAny_Slice (evalPart_none_step (evalPart_some_step (wz (h2 s1 (e.trans e1) I1) (fun vu s2 e2 I2 zr => ?_)))))) ht
  obtain ⟨tu, r⟩ := zr
  subst r
  rw [evalPart_none]
  obtain ⟨a, vs, rfl, na, hv, tl⟩ := t.ext e2
  have sz := tl.length
  rw [Array.length_toList] at sz
  have E3 := ext_push s2 { cls := .type "slice", data := .fields #[.none, .int b tu, .none] }
  have I3 : Inv c { s2 with heap := s2.heap.push { cls := .type "slice", data := .fields #[.none, .int b tu, .none] } } := I2.keep E3.keep I2.bare
  have hv3 : IsT (s2.heap.push { cls := .type "slice", data := .fields #[.none, .int b tu, .none] }) a vs := tuple_obj hv fun o q1 q2 => E3.keep.get q1 q2
  have EE := (e.trans e1).trans (e2.trans E3)
  refine wpAny_pure ⟨hv3.is.typeIs, getItem_tuple_upto hv3.is (Heap.IsSliceOf.new ..) (by omega) ⟨e1.trans (e2.trans (E3.trans (ext_push _ _))), I3.keep (Keep.push _ _) I3.bare, _, _, rfl, ?_, ⟨0, Heap.get?_push_size _ rfl⟩, ?_⟩ (by omega)⟩
  · intro q
    have := hX _ q
    rw [ext_none EE (size_none _)] at this; cases this
  · rw [List.toList_toArray]
    exact TrL.ext (TrL.ext (TrL.take b tl) E3) (ext_push _ _)
end
end Mine
end
section
open PySem PySem.W PySem.Calls PyProof.Rows
set_option linter.unusedVariables false
set_option maxRecDepth 100000
namespace Mine
set_option genSizeOf false
set_option genInjectivity false
set_option tactic.hygienic false
section
variable {c : Cx} {n : Nat} {env : Env} {X X₀ own Z : Addr → Prop} {hA : Heap} {os : OsState} {s s' : Shared} {σ : List (Str × LV)} {d : D} {ds : List D} {pos : Pos} {rest body : List Stmt} {Q : Flow → Shared → Prop}
noncomputable def EvEs (c : Cx) (n : Nat) (X : Addr → Prop) (s : Shared) (env : Env) : List Expr → List D → Prop
  | [], [] => True
  | e :: es, d :: ds => EvD c n X s (eval e env) d ∧ EvEs c n X s env es ds
  | u1, u2 => False
theorem EvEs.nil : EvEs c n X s env [] [] := trivial
theorem EvEs.cons {e : Expr} {es : List Expr} (h1 : EvD c n X s (eval e env) d) (h2 : EvEs c n X s env es ds) : EvEs c n X s env (e :: es) (d :: ds) := ⟨h1, h2⟩
noncomputable def noStar : List Expr → Bool
  | [] => true
  | .Starred .. :: _ => false
  | _ :: r => noStar r
theorem starEach_one {env : Env} {e : Expr} {es : List Expr} (h : noStar (e :: es) = true) : noStar es = true ∧ starEach (e :: es) env = (false, eval e env) :: starEach es env := by
  cases e <;> first
    | exact absurd h Bool.false_ne_true
    | exact ⟨h, rfl⟩
theorem starEach_plain {env : Env} {pos : Pos} : ∀ {es : List Expr}, noStar es = true → backTo pos (starEach es env) = es.map fun e => (false, eval e env)
  | [], u1 => rfl
  | e :: es, h => by
    obtain ⟨h1, h2⟩ := starEach_one (env := env) h
    have := starEach_plain (env := env) (pos := pos) (es := es) h1
    unfold backTo at this ⊢
    rw [h2, List.map_cons, this, List.map_cons]; rfl
theorem EvEs.evl : ∀ {es : List Expr} {ds : List D}, EvEs c n X s env es ds → EvL c n X s (spliced (es.map fun e => (false, eval e env))) ds
  | [], [], u1 => evl_nil
  | e :: es, d :: ds, zp => by obtain ⟨h1, h2⟩ := zp; exact evl_cons h1 h2.evl
  | [], u1 :: u2, h => h.elim
  | u1 :: u2, [], h => h.elim
theorem EvEs.any {es : List Expr} : (es.map fun e => (false, eval e env)).any (·.1) = false := by
  rw [List.any_eq_false]
  intro x hx
  obtain ⟨e, _, rfl⟩ := List.mem_map.mp hx
  exact Bool.false_ne_true
theorem ev_tup {elts : List Expr} {k : Nat} (hX : ∀ a, X a → (s.heap.get? a).isSome = true) (h : EvEs c n X s env elts ds) (hsz : autoParam (Nat.ble ds.length 1000 = true) tacR) (hns : autoParam (noStar elts = true) tacR) : EvD c n X s (eval (.Tuple elts k pos) env) (.tup ds) :=
  ev_tuple hX h.evl (starEach_plain hns) (Nat.le_of_ble_eq_true hsz)
theorem evn_lst {elts : List Expr} (h : EvEs c n X s env elts ds) (hsz : autoParam (Nat.ble ds.length 1000 = true) tacR) (hns : autoParam (noStar elts = true) tacR) : EvN c n X s (eval (.List elts pos) env) ds := evn_list h.evl (starEach_plain hns) (Nat.le_of_ble_eq_true hsz)
theorem ev_callN {x : Str} {p : Pos} {e : Expr} {es : List Expr} {f : FnRec} (hX : ∀ a, X a → (s.heap.get? a).isSome = true) (hf : EvV c n s (eval (.Name x p) env) (.ref f.a)) (hm : f ∈ FNS)
    (hF : Fn c n (.ref f.a) ds d) (ha : EvEs c n X s env (e :: es) ds) (hns : autoParam (noStar (e :: es) = true) tacR) : EvD c n X s (eval (.Call (.Name x p) (e :: es) [] pos) env) d :=
  ev_call hX hf hm hF (starEach_plain hns) ha.evl
theorem ev_starts {o : Expr} {apos : Pos} {a : Expr} {x y : Str} (ho : EvD c n X s (eval o env) (.str x)) (h1 : EvD c n X s (eval a env) (.str y)) (hargs : autoParam (backTo pos (starEach [a] env) = [(false, eval a env)]) tacR)
    (hbase : autoParam (attributeBase o "startswith" env (eval o env) = eval o env) tacR) (hline : autoParam ((apos.endLine == pos.line) = true) tacR) : EvD c n X s (eval (.Call (.Attribute o "startswith" apos) [a] [] pos) env) (.bool (Txt.startswith x y)) := by
  refine ev_bmeth (T := "str") (id := "str.startswith") (RO := fun uu v => ∃ t, v = .str x t) ho (fun uu uu uu uu h => h) (fun s1 v zp => by obtain ⟨t, e⟩ := zp; subst e; exact ⟨typeIs_str _ _ _, fun a e => nomatch e⟩) F.plainAttrs_str F.slot_str_startswith F.type_str_startswith hargs rfl (by simp) (evl_cons h1 evl_nil) ?_ hbase hline
  rintro v vs s1 e I1 ⟨t, rfl⟩ ⟨u, r, rfl, ⟨t2, rfl⟩, er⟩ s2 e2 I2
  have er : r = [] := er
  subst er
  exact SC.startswith ⟨.refl _, I2, rfl⟩
theorem ev_ends {o : Expr} {apos : Pos} {a : Expr} {x y : Str} (ho : EvD c n X s (eval o env) (.str x)) (h1 : EvD c n X s (eval a env) (.str y)) (hargs : autoParam (backTo pos (starEach [a] env) = [(false, eval a env)]) tacR)
    (hbase : autoParam (attributeBase o "endswith" env (eval o env) = eval o env) tacR) (hline : autoParam ((apos.endLine == pos.line) = true) tacR) : EvD c n X s (eval (.Call (.Attribute o "endswith" apos) [a] [] pos) env) (.bool (Txt.endswith x y)) := by
  refine ev_bmeth (T := "str") (id := "str.endswith") (RO := fun uu v => ∃ t, v = .str x t) ho (fun uu uu uu uu h => h) (fun s1 v zp => by obtain ⟨t, e⟩ := zp; subst e; exact ⟨typeIs_str _ _ _, fun a e => nomatch e⟩) F.plainAttrs_str F.slot_str_endswith F.type_str_endswith hargs rfl (by simp) (evl_cons h1 evl_nil) ?_ hbase hline
  rintro v vs s1 e I1 ⟨t, rfl⟩ ⟨u, r, rfl, ⟨t2, rfl⟩, er⟩ s2 e2 I2
  have er : r = [] := er
  subst er
  exact SC.endswith ⟨.refl _, I2, rfl⟩

theorem bin_pct3 {a nm : Str} {p : Int} (ha : a.length ≤ 1000) (hp0 : 0 ≤ p) (hp1 : p < 10 ^ 10) (hn : nm.length ≤ 1000) : BinD c n .Mod (.str "%s:%d(%s)") (.tup [.str a, .int p, .str nm]) (.str (a ++ ":" ++ Str.ofString (toString p) ++ "(" ++ nm ++ ")")) := fun X s v1 v2 I uu zp e2 => by
  obtain ⟨t, e1⟩ := zp
  subst e1
  obtain ⟨b, vs, rfl, nb, hv, v1, r1, ev, ⟨ta, rfl⟩, v2, r2, er1, ⟨tp, rfl⟩, v3, r3, er2, ⟨tn, rfl⟩, er3⟩ := e2
  have er3 : r3 = [] := er3
  subst er3 er2 er1
  have ht : IsTup s.heap b #[.str a ta, .int p tp, .str nm tn] := by
    have := hv.is
    rwa [show vs = #[.str a ta, .int p tp, .str nm tn] from Array.toList_inj.mp ev] at this
  have hT : s.TypeIs (.ref b) "tuple" := by
    obtain ⟨o, ho, hc, _⟩ := ht
    exact ⟨o, ho, hc⟩
  have hX : (Str.ofString "%s:%d(%s)") = ⟨#[37, 115, 58, 37, 100, 40, 37, 115, 41]⟩ := by decide +kernel
  show W c n (binaryOp .Mod (.str (Str.ofString "%s:%d(%s)") t) _) _ s
  rw [hX]
  exact KPt.bin_left (T := "str") (U := "tuple") (op := .Mod) (by decide) (typeIs_str s _ t) hT F.fills_str_mod KPt.fills_tuple F.slot_str_mod
    (call_meets F.slot_str_mod (typeIs_str s _ t) F.entry_str_mod (F.args_str_mod_2 _ _) (meets3 a nm p t ta tp tn b ha hp0 hp1 hn) ⟨ht, fun t' k => ⟨(fun e => nomatch e), .upd _ _, I.toks _, _, rfl⟩⟩)
theorem bin_pctS {z : Str} (hz : z.length ≤ 1000) : BinD c n .Mod (.str "{%s}") (.str z) (.str ("{" ++ z ++ "}")) := fun X s v1 v2 I uu zp1 zp2 => by
  obtain ⟨t, e1⟩ := zp1
  obtain ⟨u, e2⟩ := zp2
  subst e1 e2
  have hX : (Str.ofString "{%s}") = ⟨#[123, 37, 115, 125]⟩ := by decide +kernel
  exact KPc.mod_str hX (by omega) (T := fun z => "{" ++ z ++ "}") (fun z hz => meetsS z t u hz) fun t' k => ⟨.upd _ _, I.toks _, _, rfl⟩
end

noncomputable def stdF (a : Str) (p : Int) (nm : Str) : Str :=
  if a == ("~" : Str) && p == 0 then (if Txt.startswith nm "<" && Txt.endswith nm ">" then "{" ++ Txt.slice nm (some 1) (some (-1)) ++ "}" else nm)
  else a ++ ":" ++ Str.ofString (toString p) ++ "(" ++ nm ++ ")"
theorem ok_std : R_std.Ok ["func_name"] where
  mem := inF 9 rfl
  cl := rfl
  bind := fun kV doc pm an ct vs h => by
    obtain ⟨a, rfl⟩ := len1 h
    rfl
  kinds := by rfl
  nodup := by decide
  cnodup := by decide
  celled := by rfl
  co := rfl
  gen := rfl
  fun_ := rfl
theorem std_fn {c : Cx} (a : Str) (p : Int) (nm : Str) (ha : a.length ≤ 100) (hs : PyData.strOk a = true) (hp0 : 0 ≤ p) (hp1 : p < 1000) (hn : nm.length ≤ 100) : Fn c 10 (.ref 163) [.tup [.str a, .int p, .str nm]] (.str (stdF a p nm)) := by
  refine Fn.intro (f := R_std) ok_std rfl (by decide) fun X₀ own s₀ s L cells hc B => ?_
  have ok1 : D.Ok (.tup [.str a, .int p]) := ⟨by show (PyData.strOk a && (true && true)) = true; rw [hs]; rfl, Nat.le_of_ble_eq_true rfl⟩
  have ok2 : D.Ok (.tup [.str "~", .int 0]) := ⟨by decide +kernel, by decide⟩
  have hbb : PyData.eqv (D.py (.tup [.str a, .int p])) (D.py (.tup [.str "~", .int 0])) = (a == ("~" : Str) && p == 0) := by
    show (a == ("~" : Str) && (p == 0 && true)) = _
    rw [Bool.and_true]
  have fn : ∀ {s'} {σ : List (Str × LV)} {y : Str} {q : Pos} {d : D}, Bd c (R_std.env L cells) X₀ own (fun uu => False) s₀.heap s₀.os s' σ → y = "func_name" ∨ y = "name" → σ.lookup y = some (.tr d) → EvD c 11 (fun a => X₀ a ∨ own a) s' (eval (.Name y q) (R_std.env L cells)) d := by
    rintro s' σ y q d B (rfl | rfl) h
    · exact ev_loc B h
    · exact ev_loc B h
  refine st_if B.inv (ev_test (ev_tslice (b := 2) B.ex (fn B (.inl rfl) rfl) ev_int (by simp) (by simp)) (ev_tup B.ex (.cons ev_str (.cons ev_int .nil))) (cmp_eqd ok1 ok2 (by decide))) (fun hb s1 E1 I1 => ?_) (fun hb s1 E1 I1 => ?_)
  · have B1 := B.ext E1 I1
    rw [show List.take 2 _ = [D.str a, D.int p] from rfl, hbb] at hb
    refine st_assign B1 (ev_item_tup (j := 2) (fn B1 (.inl rfl) rfl) ev_int (by decide) (by decide) rfl rfl) fun s2 B2 => ?_
    refine st_if B2.inv (ev_and (ev_true (ev_starts (fn B2 (.inr rfl) rfl) ev_str)) fun uu => (ev_true (ev_ends (fn B2 (.inr rfl) rfl) ev_str))) (fun hb2 s3 E3 I3 => ?_) (fun hb2 s3 E3 I3 => ?_)
    · have B3 := B2.ext E3 I3
      refine st_ret B3 ((ev_bin B3.ex ev_str (ev_sslice (fn B3 (.inr rfl) rfl) (evp_some (X := fun uu => False) ev_int) (evp_some (X := fun uu => False) (ev_neg ev_int)) (by omega)) (bin_pctS (Nat.le_trans (Txt.slice_le _ _ _) (by omega)))).less fun a h => .inl h) fun v s' h => ?_
      rw [stdF, if_pos hb, if_pos hb2]; exact h
    · have B3 := B2.ext E3 I3
      refine st_ret B3 ((fn B3 (.inr rfl) rfl).less fun a h => .inl h) fun v s' h => ?_
      rw [stdF, if_pos hb, if_neg (by rw [hb2]; decide)]; exact h
  · have B1 := B.ext E1 I1
    rw [show List.take 2 _ = [D.str a, D.int p] from rfl, hbb] at hb
    refine st_ret B1 ((ev_bin B1.ex ev_str (fn B1 (.inl rfl) rfl) (bin_pct3 (by omega) hp0 (by omega) (by omega))).less fun a h => .inl h) fun v s' h => ?_
    rw [stdF, if_neg (by rw [hb]; decide)]; exact h
end Mine
end
section
open PySem PySem.W PySem.Calls PyProof.Rows
set_option linter.unusedVariables false
set_option maxRecDepth 100000
namespace Mine
set_option genSizeOf false
set_option genInjectivity false
theorem ok_push : R_push.Ok ["self", "fws", "string"] where
  mem := inF 1 rfl
  cl := rfl
  bind := fun kV doc pm an ct vs h => by
    obtain ⟨a, b, d, rfl⟩ := len3 h
    rfl
  kinds := by rfl
  nodup := by decide
  cnodup := by decide
  celled := by rfl
  co := rfl
  gen := rfl
  fun_ := rfl
structure AccS (c : Cx) : Prop extends AccK c where
  sub : subIn c.K (.ref 117) (.type "list") = some true
section
variable {c : Cx} {n : Nat} {env : Env} {X X₀ own Z : Addr → Prop} {hA : Heap} {os : OsState} {s s' s₀ : Shared} {σ : List (Str × LV)} {d : D} {ds : List D} {pos : Pos} {rest body : List Stmt} {Q : Flow → Shared → Prop}
theorem shadow_none {od : Obj} {x : Str} (h : ∀ x : Str, x ≠ "_initial_size" → lookIn x od = some none) (hx : x ≠ ("_initial_size" : Str)) : shadowIn (some od) x = some false := by
  show (lookIn x od).map _ = _
  rw [h x hx]; rfl
theorem st_accapp {x : Str} {a dx : Addr} {i0 : Int} {xp apos p2 : Pos} {e : Expr} (K : AccS c) (B : Bd c env X₀ own Z hA os s σ) (hl : σ.lookup x = some (.ac a dx ds i0)) (he : EvD c n (fun a => X₀ a ∨ own a) s (eval e env) d) (hsz : ds.length ≤ 1000)
    (hap : ∀ y l b, σ.lookup y = some l → y ≠ x → b ∈ l.addrs → b ∉ [a, dx]) (h : ∀ s', Bd c env X₀ own Z hA os s' ((x, .ac a dx (ds ++ [d]) i0) :: σ) → W c n (execs rest env) Q s')
    (hns : autoParam (noStar [e] = true) tacR) (hx' : autoParam (isLC (env.kindOf x) = true) tacR) (hk : autoParam (env.scope.kind = .function) tacR) (hd : autoParam ((x == ("__debug__" : Str)) = false) tacD) (hi : autoParam (interactive env = false) tacR) (hline : autoParam ((apos.endLine == pos.line) = true) tacR)
    (hsw : autoParam (swapsWith (.Call (.Attribute (.Name x xp) "append" apos) [e] [] pos) none p2.line env = pure false) tacR) :
    W c n (execs (.Expr (.Call (.Attribute (.Name x xp) "append" apos) [e] [] pos) p2 :: rest) env) Q s := by
  refine wpAny_execs_cons (wpAny_Expr ?_ hi hsw)
  refine call_attr (wz (ev_lacc (n := n) B hl hk hx' hd s (.refl _) B.inv) (fun v s1 e1 I1 t1 => ?_)) (starEach_plain hns) (by rfl) rfl hline
  subst t1
  obtain ⟨_, _, vs1, hr1, _⟩ := (B.ext e1 I1).lacc hl
  obtain ⟨m1, od1, It, _, hno⟩ := hr1.inst
  refine getMethod_acc I1.kin It K.ga K.gat K.app K.tapp (by rfl) (shadow_none hno (by decide)) ?_
  refine callWith_builtin rfl (evalArgs_any rfl (wz (EvEs.evl (.cons he .nil) s1 e1 I1) (fun vs s2 e2 I2 zr => ?_)))
  obtain ⟨u, r, ev, t2, er⟩ := zr
  have er : r = [] := er
  subst er ev
  have B2 := B.ext (e1.trans e2) I2
  obtain ⟨oa, od, vs2, hr2, tl2⟩ := B2.lacc hl
  have sz : vs2.size = ds.length := by rw [← tl2.length, Array.length_toList]
  refine acc_append I2 hr2 K.sub (by omega) fun h' hs hr' => h _ ?_
  have kp : Kp (fun b => b ∈ (LV.ac a dx ds i0).addrs) s2.heap h' := .same hs List.mem_cons_self
  refine B2.lend (s' := { s2 with heap := h' }) (lv' := .ac a dx (ds ++ [d]) i0) hl kp (I2.sameBut (t := s2.toks) hs hr2.1) rfl (fun b hb => ?_) (fun b hb => hb) (fun v ok => ⟨ok.1, ok.2.1, ok.2.2.1, vs2.push u, hr', ?_⟩) hap
  · have hb : b = a ∨ b = dx := mem2 hb
    rcases hb with rfl | rfl
    · exact hr'.ex.1
    · exact hr'.ex.2
  · rw [Array.toList_push]
    exact TrL.snoc (TrL.mv (.same hs (.inr oa)) _ _ tl2) (Tr.mv (.same hs (.inr oa)) _ _ t2)
theorem st_push {x : Str} {a dx : Addr} {i0 : Int} {xp apos p2 : Pos} {e1 e2 : Expr} {d1 d2 : D} (K : AccS c) (B : Bd c env X₀ own Z hA os s σ) (hl : σ.lookup x = some (.ac a dx ds i0)) (h1 : EvD c n (fun a => X₀ a ∨ own a) s (eval e1 env) d1) (h2 : EvD c n (fun a => X₀ a ∨ own a) s (eval e2 env) d2) (hsz : ds.length ≤ 1000) (hn : n ≤ 20)
    (hap : ∀ y l b, σ.lookup y = some l → y ≠ x → b ∈ l.addrs → b ∉ [a, dx]) (h : ∀ s', Bd c env X₀ own Z hA os s' ((x, .ac a dx (ds ++ [.tup [d1, d2]]) i0) :: σ) → W c n (execs rest env) Q s')
    (hns : autoParam (noStar [e1, e2] = true) tacR) (hx' : autoParam (isLC (env.kindOf x) = true) tacR) (hk : autoParam (env.scope.kind = .function) tacR) (hd : autoParam ((x == ("__debug__" : Str)) = false) tacD) (hi : autoParam (interactive env = false) tacR) (hline : autoParam ((apos.endLine == pos.line) = true) tacR)
    (hsw : autoParam (swapsWith (.Call (.Attribute (.Name x xp) "push" apos) [e1, e2] [] pos) none p2.line env = pure false) tacR) :
    W c n (execs (.Expr (.Call (.Attribute (.Name x xp) "push" apos) [e1, e2] [] pos) p2 :: rest) env) Q s := by
  refine wpAny_execs_cons (wpAny_Expr ?_ hi hsw)
  refine call_attr (wz (ev_lacc (n := n) B hl hk hx' hd s (.refl _) B.inv) (fun v s1 k1 I1 t1 => ?_)) (starEach_plain hns) (by rfl) rfl hline
  subst t1
  obtain ⟨_, _, vs1, hr1, _⟩ := (B.ext k1 I1).lacc hl
  obtain ⟨m1, od1, It, _, hno⟩ := hr1.inst
  refine getMethod_acc I1.kin It K.ga K.gat K.push K.t62 (by rfl) (shadow_none hno (by decide)) ?_
  obtain ⟨o', fd, ho', hd'⟩ := fn_obj I1 (f := R_push) (inF 1 rfl)
  refine callWith_function (o := o') (fd := fd) (evalArgs_plain (wz (EvEs.evl (.cons h1 (.cons h2 .nil)) s1 k1 I1) (fun vs s2 k2 I2 zr => ⟨⟨?_, hd'⟩, ?_⟩)))
  · refine k2.keep.get ho' ?_
    obtain ⟨o'', _, _, _, _, _, g1, g2, _⟩ := I1.fn R_push (inF 1 rfl)
    rw [ho'] at g1; cases g1
    rw [g2]; intro q; cases q
  obtain ⟨u1, r1, ev1, t1, u2, r2, ev2, t2, er⟩ := zr
  have er : r2 = [] := er
  subst er ev2 ev1
  have B2 := B.ext (k1.trans k2) I2
  obtain ⟨oa, odx, vs2, hr2, tl2⟩ := B2.lacc hl
  have lent_of : ∀ b, b ∈ [a, dx] → own b := fun b hb => by
    simp only [List.mem_cons, List.not_mem_nil, or_false] at hb
    rcases hb with rfl | rfl
    · exact oa
    · exact odx
  have exl : ∀ b, b ∈ [a, dx] → (s2.heap.get? b).isSome = true := fun b hb => B2.ex b (.inr (lent_of b hb))
  have eqX : (fun b => (X₀ b ∨ (own b ∧ b ∉ [a, dx])) ∨ b ∈ [a, dx]) = fun b => X₀ b ∨ own b := by
    funext b
    refine propext ⟨fun q => ?_, fun q => ?_⟩
    · rcases q with (q | q) | q
      · exact .inl q
      · exact .inr q.1
      · exact .inr (lent_of b q)
    · by_cases m : b ∈ [a, dx]
      · exact .inr m
      · exact .inl (q.imp id fun q => ⟨q, m⟩)
  refine callG (f := R_push) (X := fun b => X₀ b ∨ (own b ∧ b ∉ [a, dx])) (lent := fun b => b ∈ [a, dx]) (lvs := [.ac a dx ds i0, .tr d1, .tr d2]) ok_push rfl hn I2 (fun b hb => B2.ex b (hb.imp id fun q => q.1)) (fun b hb => ⟨B2.far b (lent_of b hb), exl b hb, fun q => ?_⟩) ?_ ?_
  · rcases q with q | q
    · exact B2.dis b (lent_of b hb) q
    · exact q.2 hb
  · rw [eqX]
    exact ⟨.ref a, _, rfl, ⟨rfl, by simp, by simp, vs2, hr2, tl2⟩, u1, _, rfl, t1, u2, _, rfl, t2, rfl⟩
  · intro own' s3 L cells hcl hsub' B3
    refine st_accapp K B3 rfl (ev_tup B3.ex (.cons (ev_loc B3 rfl) (.cons (ev_loc B3 rfl) .nil))) hsz (fun y l b q ne hb => ?_) fun s4 B4 => st_nil ?_
    · have : l = .tr d1 ∨ l = .tr d2 := by
        simp only [List.zip_cons_cons, List.lookup_cons] at q
        split at q
        · rename_i h; exact absurd (by simpa using h) ne
        · split at q
          · cases q; exact .inl rfl
          · split at q
            · cases q; exact .inr rfl
            · cases q
      rcases this with rfl | rfl <;> exact nomatch hb
    · obtain ⟨oa4, od4, vs4, hr4, tl4⟩ := B4.lacc (x := "self") rfl
      refine h s4 (B2.lend (s' := s4) (lv' := .ac a dx (ds ++ [.tup [d1, d2]]) i0) hl B4.chg B4.inv B4.os (fun b hb => ?_) (fun b hb => hb) (fun v ok => ⟨ok.1, ok.2.1, ok.2.2.1, vs4, hr4, ?_⟩) hap)
      · have hb : b = a ∨ b = dx := mem2 hb
        rcases hb with rfl | rfl
        · exact hr4.ex.1
        · exact hr4.ex.2
      · refine TrL.mv (.less fun b q => ?_) _ _ tl4
        rcases q with q | q
        · exact .inl (.inl q)
        · by_cases m : b ∈ [a, dx]
          · exact .inr (hsub' b m)
          · exact .inl (.inr ⟨q, m⟩)
end
end Mine
end
section
open PySem PySem.Sre
set_option maxRecDepth 100000
namespace Mine
set_option genSizeOf false
set_option genInjectivity false
set_option tactic.hygienic false
noncomputable abbrev code1 : Array Nat := #[14, 4, 0, 1, 1, 6, 1, 16, 46, 1]
noncomputable abbrev code2 : Array Nat := #[14, 9, 4, 1, 2, 16, 10, 16, 13, 0, 7, 7, 16, 13, 16, 10, 15, 18, 5, 16, 10, 15, 13, 11, 16, 13, 5, 5, 0, 16, 10, 1, 15, 2, 0, 1]
noncomputable abbrev SM (code T : Array Nat) (p : Nat) (first : Bool) (sn : Seen) (pc pos : Nat) (ans : Option Bool) (hd : Nat) (fr : List PySem.Sre.Frame) (wt : Nat) (oc : Option PySem.Sre.Outcome) : M :=
  { code := code, text := T, lim := T.size, start := p, lastStart := T.size, wholeText := false, mustAdvance := false, pc := pc, pos := pos, handed := hd, outermost := first, marks := #[], lastmark := -1, lastindex := -1, loops := #[], inner := none,
    frames := fr, weight := wt, answer := ans, seen := sn, outcome := oc }
noncomputable abbrev F0 (pc p : Nat) (first : Bool) : PySem.Sre.Frame := { wait := .nextStart, pc := pc, pos := p, outermost := first }
noncomputable abbrev S1 (T : Array Nat) (p : Nat) (first : Bool) (sn : Seen) (pc pos : Nat) (ans : Option Bool) (hd : Nat) : M := SM code1 T p first sn pc pos ans hd [F0 5 p first] 1 none

theorem runFor_succ (k : Nat) (m : M) : M.runFor (k + 1) m = if m.outcome.isSome = true then m else M.runFor k m.step := rfl
theorem runFor_done {m : M} (h : m.outcome.isSome = true) : ∀ k, M.runFor k m = m
  | 0 => rfl
  | k + 1 => by rw [runFor_succ, if_pos h]
theorem runFor_add (a b : Nat) (m : M) : M.runFor (a + b) m = M.runFor b (M.runFor a m) := by
  induction a generalizing m with
  | zero => rw [Nat.zero_add]; rfl
  | succ a ih =>
    rw [Nat.succ_add, runFor_succ, runFor_succ]
    by_cases h : m.outcome.isSome = true
    · rw [if_pos h, if_pos h, runFor_done h]
    · rw [if_neg h, if_neg h]; exact ih m.step
noncomputable def Ends (k : Nat) (m : M) (P : M → Prop) : Prop := ∃ m', m'.outcome.isSome = true ∧ P m' ∧ M.runFor k m = m'
theorem Ends.more {k j : Nat} {m : M} {P : M → Prop} (h : Ends k m P) (hj : k ≤ j) : Ends j m P := by
  obtain ⟨m', h1, h2, h3⟩ := h
  obtain ⟨d, rfl⟩ := Nat.exists_eq_add_of_le hj
  exact ⟨m', h1, h2, by rw [runFor_add, h3]; exact runFor_done h1 d⟩
theorem Ends.step {k : Nat} {m m' : M} {P : M → Prop} (e : m.step = m') (ho : m.outcome = none) (h : Ends k m' P) : Ends (k + 1) m P := by
  obtain ⟨q, h1, h2, h3⟩ := h
  refine ⟨q, h1, h2, ?_⟩
  show (if m.outcome.isSome = true then m else M.runFor k m.step) = q
  rw [ho, if_neg (by decide), e]; exact h3
theorem Ends.done {m : M} {P : M → Prop} (h : m.outcome.isSome = true) (p : P m) : Ends 0 m P := ⟨m, h, p, rfl⟩

noncomputable def firstHit (hit : Nat → Bool) : Nat → Nat → Option Nat
  | 0, u1 => none
  | n + 1, p => if hit p then some p else firstHit hit n (p + 1)
noncomputable def Good (r : Option Nat) (m : M) : Prop := match r with
  | some q => m.outcome = some .matched ∧ m.start = q ∧ m.handed = q + 1
  | none => m.outcome = some .failed

theorem s1_a (T p first sn) : (S1 T p first sn 5 p none p).step = if (p == 0 || T.getD (p - 1) 0 == 10) = true then S1 T p first ((sn.add 6).add 44) 7 p none p else S1 T p first ((sn.add 6).add 44) 5 p (some false) p := rfl
theorem s1_b (T p first sn) (h : p < T.size) : (S1 T p first sn 7 p none p).step = if (T.getD p 0 == 46) = true then S1 T p first (sn.add 16) 9 (p + 1) none p else S1 T p first (sn.add 16) 7 p (some false) p := by
  show (if p ≥ T.size then _ else _) = _
  rw [if_neg (by omega)]
  show (match (Except.ok (T.getD p 0 == 46, sn.add 16) : Except String (Bool × Seen)) with | .error why => _ | .ok (false, seen) => _ | .ok (true, seen) => _) = _
  cases (T.getD p 0 == 46) <;> rfl
theorem s1_b' (T p first sn) (h : ¬ p < T.size) : (S1 T p first sn 7 p none p).step = S1 T p first (sn.add 16) 7 p (some false) p := by
  show (if p ≥ T.size then _ else _) = _
  rw [if_pos (by omega)]
  rfl
theorem s1_c (T p first sn) : (S1 T p first sn 9 (p + 1) none p).step = S1 T p first (sn.add 1) 9 (p + 1) (some true) (p + 1) := by cases first <;> rfl
theorem s1_n (T p first sn pc pos hd) : (S1 T p first sn pc pos (some false) hd).step = if p < T.size then S1 T (p + 1) false sn 5 (p + 1) none (p + 1) else SM code1 T p first sn 5 p (some false) hd [] 0 none := rfl
theorem s1_y (T p first sn pc pos hd) : (S1 T p first sn pc pos (some true) hd).step = SM code1 T p first sn 5 p (some true) hd [] 0 none := rfl
theorem sm_end (code T p first sn pc pos b hd) : (SM code T p first sn pc pos (some b) hd [] 0 none).step = SM code T p first sn pc pos (some b) hd [] 0 (some (if b then .matched else .failed)) := rfl

noncomputable def hit1 (T : Array Nat) (q : Nat) : Bool := (q == 0 || T.getD (q - 1) 0 == 10) && T.getD q 0 == 46
theorem find1 (T : Array Nat) : ∀ (n p : Nat) (first : Bool) (sn : Seen), n = T.size - p → p ≤ T.size → Ends (4 * n + 5) (S1 T p first sn 5 p none p) (Good (firstHit (hit1 T) n p))
  | 0, p, first, sn, hn, hp => by
    have hp' : ¬ p < T.size := by omega
    have fin : ∀ sn pc pos hd, Ends 3 (S1 T p first sn pc pos (some false) hd) (Good none) := fun sn pc pos hd =>
      ((Ends.done (m := SM code1 T p first sn 5 p (some false) hd [] 0 (some .failed)) (P := Good none) rfl rfl).step (sm_end ..) rfl |>.step (s1_n T p first sn pc pos hd |>.trans (if_neg hp')) rfl).more (k := 2) (j := 3) (by decide)
    by_cases h : (p == 0 || T.getD (p - 1) 0 == 10) = true
    · exact ((fin _ _ _ _).step (s1_b' T p first _ hp') rfl |>.step ((s1_a T p first sn).trans (if_pos h)) rfl).more (k := 5) (j := 5) (by decide)
    · exact ((fin _ _ _ _).step ((s1_a T p first sn).trans (if_neg h)) rfl).more (k := 4) (j := 5) (by decide)
  | n + 1, p, first, sn, hn, hp => by
    have hp' : p < T.size := by omega
    have nx : ∀ sn pc pos hd, Ends (4 * n + 6) (S1 T p first sn pc pos (some false) hd) (Good (firstHit (hit1 T) n (p + 1))) := fun sn pc pos hd =>
      (find1 T n (p + 1) false sn (by omega) (by omega)).step (s1_n T p first sn pc pos hd |>.trans (if_pos hp')) rfl
    unfold firstHit
    by_cases h : (p == 0 || T.getD (p - 1) 0 == 10) = true
    · by_cases h2 : (T.getD p 0 == 46) = true
      · rw [if_pos (by rw [hit1, h, h2]; rfl)]
        exact ((Ends.done (m := SM code1 T p first _ 5 p (some true) (p + 1) [] 0 (some .matched)) (P := Good (some p)) rfl ⟨rfl, rfl, rfl⟩).step (sm_end ..) rfl |>.step (s1_y T p first _ _ _ _) rfl |>.step (s1_c T p first _) rfl
          |>.step ((s1_b T p first _ hp').trans (if_pos h2)) rfl |>.step ((s1_a T p first sn).trans (if_pos h)) rfl).more (by omega)
      · rw [if_neg (by rw [hit1, h, Bool.true_and]; exact h2)]
        exact ((nx _ _ _ _).step ((s1_b T p first _ hp').trans (if_neg h2)) rfl |>.step ((s1_a T p first sn).trans (if_pos h)) rfl).more (by omega)
    · rw [if_neg (by intro q; rw [hit1, Bool.and_eq_true] at q; exact h q.1)]
      exact ((nx _ _ _ _).step ((s1_a T p first sn).trans (if_neg h)) rfl).more (by omega)
theorem search1 (T : Array Nat) (p : Nat) (hp : p ≤ T.size) : Ends (4 * (T.size - p) + 5) (forSearch code1 T 0 p T.size false) (Good (firstHit (hit1 T) (T.size - p) p)) := by
  by_cases h : p = T.size
  · subst h
    have e : T.size - T.size = 0 := by omega
    rw [e]
    have : forSearch code1 T 0 T.size T.size false = { (SM code1 T T.size true (({} : Seen).add 14) 5 T.size (some false) T.size [] 0 none) with lastStart := 0 } := by
      show (if (decide (T.size > T.size) || decide (T.size - T.size < 1)) = true then _ else _) = _
      rw [if_pos (by rw [Bool.or_eq_true]; exact .inr (decide_eq_true (by omega)))]; rfl
    rw [this]
    exact ((Ends.done (m := { (SM code1 T T.size true (({} : Seen).add 14) 5 T.size (some false) T.size [] 0 (some .failed)) with lastStart := 0 }) (P := Good none) rfl rfl).step rfl rfl).more (by omega)
  · have : forSearch code1 T 0 p T.size false = S1 T p true (({} : Seen).add 14) 5 p none p := by
      show (if (decide (p > T.size) || decide (T.size - p < 1)) = true then _ else _) = _
      rw [if_neg (by simp only [Bool.or_eq_true, decide_eq_true_eq]; omega)]; rfl
    rw [this]
    exact find1 T _ p true _ rfl hp
end Mine
end
section
open PySem PySem.Sre
set_option maxRecDepth 100000
namespace Mine
set_option genSizeOf false
set_option genInjectivity false
set_option tactic.hygienic false
noncomputable def hit2 (T : Array Nat) (q : Nat) : Bool := T.getD q 0 == 10
noncomputable abbrev B2f (pc q : Nat) (first : Bool) : PySem.Sre.Frame := { wait := .nextBranch, pc := pc, pos := q, outermost := first, kept := { lastmark := -1, lastindex := -1, whole := false, marks := #[] } }
noncomputable abbrev S2 (T : Array Nat) (q : Nat) (first : Bool) (sn : Seen) (pc pos : Nat) (ans : Option Bool) (hd : Nat) (br : Nat) : M := SM code2 T q first sn pc pos ans hd [B2f br q first, F0 10 q first] 2 none
theorem s2_a (T q first sn) : (SM code2 T q first sn 10 q none q [F0 10 q first] 1 none).step = S2 T q first (sn.add 7) 12 q none q 11 := rfl
theorem s2_b (T q first sn) (h : q < T.size) (hq : T.getD q 0 = 10) : (S2 T q first sn 12 q none q 11).step = S2 T q first (sn.add 16) 12 q (some false) q 11 := by
  show (if q ≥ T.size then _ else _) = _
  rw [if_neg (by lia)]
  show (match (Except.ok (T.getD q 0 == 13, sn.add 16) : Except String (Bool × Seen)) with | .error why => _ | .ok (false, seen) => _ | .ok (true, seen) => _) = _
  rw [hq]; rfl
theorem s2_c (T q first sn) : (S2 T q first sn 12 q (some false) q 11).step = S2 T q first sn 19 q none q 18 := rfl
theorem s2_d (T q first sn) (h : q < T.size) (hq : T.getD q 0 = 10) : (S2 T q first sn 19 q none q 18).step = S2 T q first (sn.add 16) 21 (q + 1) none q 18 := by
  show (if q ≥ T.size then _ else _) = _
  rw [if_neg (by lia)]
  show (match (Except.ok (T.getD q 0 == 10, sn.add 16) : Except String (Bool × Seen)) with | .error why => _ | .ok (false, seen) => _ | .ok (true, seen) => _) = _
  rw [hq]; rfl
theorem s2_e (T q first sn) : (S2 T q first sn 21 (q + 1) none q 18).step = S2 T q first (sn.add 15) 35 (q + 1) none q 18 := rfl
theorem s2_f (T q first sn) : (S2 T q first sn 35 (q + 1) none q 18).step = S2 T q first (sn.add 1) 35 (q + 1) (some true) (q + 1) 18 := by cases first <;> rfl
theorem s2_g (T q first sn hd) : (S2 T q first sn 35 (q + 1) (some true) hd 18).step = SM code2 T q first sn 18 q (some true) hd [F0 10 q first] 1 none := rfl
theorem s2_h (T q first sn hd) : (SM code2 T q first sn 18 q (some true) hd [F0 10 q first] 1 none).step = SM code2 T q first sn 10 q (some true) hd [] 0 none := rfl
theorem found2 (T : Array Nat) (q : Nat) (first : Bool) (sn : Seen) (h : q < T.size) (hq : T.getD q 0 = 10) : Ends 9 (SM code2 T q first sn 10 q none q [F0 10 q first] 1 none) (Good (some q)) :=
  (Ends.done (m := SM code2 T q first _ 10 q (some true) (q + 1) [] 0 (some .matched)) (P := Good (some q)) rfl ⟨rfl, rfl, rfl⟩).step (sm_end ..) rfl |>.step (s2_h T q first _ _) rfl |>.step (s2_g T q first _ _) rfl |>.step (s2_f T q first _) rfl
    |>.step (s2_e T q first _) rfl |>.step (s2_d T q first _ h hq) rfl |>.step (s2_c T q first _) rfl |>.step (s2_b T q first _ h hq) rfl |>.step (s2_a T q first _) rfl
theorem set_yes (sn : Seen) : inSet code2 10 code2.size 5 true sn = .ok (true, sn.add 16) := rfl
theorem set_no (c : Nat) (sn : Seen) (h1 : c ≠ 10) (h2 : c ≠ 13) : inSet code2 c code2.size 5 true sn = .ok (false, ((sn.add 16).add 16).add 0) := by
  show (if (c == 10) = true then _ else _) = _
  rw [if_neg (by simpa using h1)]
  show (if (c == 13) = true then _ else _) = _
  rw [if_neg (by simpa using h2)]
  rfl
theorem admitted2 (m : M) (T : Array Nat) (hc : m.code = code2) (ht : m.text = T) (hl : m.lim = T.size) (hT : ∀ q, q < T.size → T.getD q 0 ≠ 13) : ∀ (fuel s : Nat) (sn : Seen), T.size - s < fuel → ∃ sn', M.admitted m fuel s sn = .ok (firstHit (hit2 T) (T.size - s) s, sn')
  | 0, s, sn, h => absurd h (Nat.not_lt_zero _)
  | fuel + 1, s, sn, h => by
    unfold M.admitted
    rw [hl, hc, ht]
    by_cases hs : s ≥ T.size
    · rw [if_pos hs, show T.size - s = 0 by lia]; exact ⟨sn, rfl⟩
    · rw [if_neg hs]
      obtain ⟨k, hk⟩ : ∃ k, T.size - s = k + 1 := ⟨T.size - s - 1, by lia⟩
      rw [hk]; unfold firstHit
      by_cases h10 : T.getD s 0 = 10
      · rw [h10, set_yes, if_pos (by rw [hit2, h10]; rfl)]; exact ⟨_, rfl⟩
      · rw [set_no _ _ h10 (hT s (by lia)), if_neg (by rw [hit2]; simpa using h10)]
        obtain ⟨sn', e⟩ := admitted2 m T hc ht hl hT fuel (s + 1) (((sn.add 16).add 16).add 0) (by lia)
        rw [show T.size - (s + 1) = k by lia] at e
        exact ⟨sn', e⟩
theorem firstHit_some {hit : Nat → Bool} : ∀ {n p q : Nat}, firstHit hit n p = some q → p ≤ q ∧ q < p + n ∧ hit q = true ∧ ∀ j, p ≤ j → j < q → hit j = false
  | 0, p, q, h => nomatch h
  | n + 1, p, q, h => by
    unfold firstHit at h
    by_cases hp : hit p = true
    · rw [if_pos hp] at h; cases h
      exact ⟨Nat.le_refl _, by lia, hp, fun j h1 h2 => by lia⟩
    · rw [if_neg hp] at h
      obtain ⟨h1, h2, h3, h4⟩ := firstHit_some h
      refine ⟨by lia, by lia, h3, fun j g1 g2 => ?_⟩
      by_cases e : j = p
      · subst e; simpa using hp
      · exact h4 j (by lia) g2
theorem firstHit_none {hit : Nat → Bool} : ∀ {n p : Nat}, firstHit hit n p = none → ∀ j, p ≤ j → j < p + n → hit j = false
  | 0, p, h, j, g1, g2 => by lia
  | n + 1, p, h, j, g1, g2 => by
    unfold firstHit at h
    by_cases hp : hit p = true
    · rw [if_pos hp] at h; cases h
    · rw [if_neg hp] at h
      by_cases e : j = p
      · subst e; simpa using hp
      · exact firstHit_none h j (by lia) (by lia)
theorem search2 (T : Array Nat) (hT : ∀ q, q < T.size → T.getD q 0 ≠ 13) (p : Nat) (hp : p ≤ T.size) : Ends 9 (forSearch code2 T 0 p T.size false) (Good (firstHit (hit2 T) (T.size - p) p)) := by
  by_cases h : p = T.size
  · subst h
    rw [show T.size - T.size = 0 by lia]
    have : forSearch code2 T 0 T.size T.size false = { (SM code2 T T.size true (({} : Seen).add 14) 10 T.size (some false) T.size [] 0 none) with lastStart := 0 } := by
      show (if (decide (T.size > T.size) || decide (T.size - T.size < 1)) = true then _ else _) = _
      rw [if_pos (by rw [Bool.or_eq_true]; exact .inr (decide_eq_true (by lia)))]; rfl
    rw [this]
    exact ((Ends.done (m := { (SM code2 T T.size true (({} : Seen).add 14) 10 T.size (some false) T.size [] 0 (some .failed)) with lastStart := 0 }) (P := Good none) rfl rfl).step rfl rfl).more (by lia)
  · have e : forSearch code2 T 0 p T.size false = M.attemptFrom (SM code2 T p true (({} : Seen).add 14) 10 p none p [] 0 none) p true := by
      show (if (decide (p > T.size) || decide (T.size - p < 1)) = true then _ else _) = _
      rw [if_neg (by simp only [Bool.or_eq_true, decide_eq_true_eq]; lia)]; rfl
    rw [e]
    obtain ⟨sn, ha⟩ := admitted2 (SM code2 T p true (({} : Seen).add 14) 10 p none p [] 0 none) T rfl rfl rfl hT (T.size + 1 - p) p (({} : Seen).add 14) (by lia)
    show Ends 9 (match M.admitted (SM code2 T p true (({} : Seen).add 14) 10 p none p [] 0 none) (T.size + 1 - p) p (({} : Seen).add 14) with
      | .ok (some s, seen) => _ | .ok (none, seen) => _ | .error why => _) _
    rw [ha]
    cases hf : firstHit (hit2 T) (T.size - p) p with
    | none =>
      exact ((Ends.done (m := SM code2 T p true sn 10 p (some false) p [] 0 (some .failed)) (P := Good none) rfl rfl).step (sm_end ..) rfl).more (by lia)
    | some q =>
      obtain ⟨h1, h2, h3, _⟩ := firstHit_some hf
      exact found2 T q true sn (by lia) (by simpa [hit2] using h3)
end Mine
end
section
open PySem PySem.W PySem.Calls PyProof.Rows
set_option linter.unusedVariables false
set_option maxRecDepth 100000
namespace Mine
set_option genSizeOf false
set_option genInjectivity false
set_option tactic.hygienic false
section
variable {c : Cx} {n : Nat} {env : Env} {X X₀ own Z : Addr → Prop} {hA : Heap} {os : OsState} {s s' : Shared} {σ : List (Str × LV)} {d : D} {ds : List D} {pos : Pos} {rest body : List Stmt} {Q : Flow → Shared → Prop}
theorem st_unpack (xs : List Str) {es : List Expr} {k : Nat} {p : Pos} {e : Expr} (B : Bd c env X₀ own Z hA os s σ) (he : EvD c n (fun a => X₀ a ∨ own a) s (eval e env) (.tup ds))
    (hq : ∀ s', Bd c env X₀ own Z hA os s' ((xs.zip (ds.map LV.tr)).reverse ++ σ) → W c n (execs rest env) Q s')
    (h : autoParam (namesOf es = some xs) tacR) (hl : autoParam (xs.length = ds.length) tacR) (hx : autoParam ((xs.all fun x => isLC (env.kindOf x)) = true) tacR) (hk : autoParam (env.scope.kind = .function) tacR)
    (hs : autoParam (swapsWithSole [.Tuple es k p] e pos.line env = pure false) tacR) (hw : autoParam (swappedStores [.Tuple es k p] e env = pure none) tacR) :
    W c n (execs (.Assign [.Tuple es k p] e pos :: rest) env) Q s :=
  wpAny_execs_cons (Assign_Tuple (wz (he s (.refl _) B.inv) (fun v s1 e1 I1 t1 => use_tuple xs (B.ext e1 I1) t1 (fun s2 B2 => hq s2 B2) h hl hx hk)) hs hw)
theorem st_try {h₀ : ExceptHandler} {hs : List ExceptHandler} (h : W c n (execs body env) (fun f s₁ => match f with | .next => W c n (execs rest env) Q s₁ | f => Q f s₁) s) : W c n (execs (.Try body (h₀ :: hs) [] [] pos :: rest) env) Q s :=
  wpAny_execs_cons (wpAny_Try_except (wpAny_mono h (fun f s1 h1 => by
    cases f with
    | next => exact wpAny_execs_nil h1
    | _ => exact h1) fun uu uu z => z.elim))
theorem st_augs {x : Str} {xp : Pos} {e : Expr} {i j : Str} (B : Bd c env X₀ own Z hA os s σ) (hl : σ.lookup x = some (.tr (.str i))) (he : EvD c n (fun a => X₀ a ∨ own a) s (eval e env) (.str j)) (hsz : i.length + j.length ≤ 100000)
    (h : ∀ s', Bd c env X₀ own Z hA os s' ((x, .tr (.str (i ++ j))) :: σ) → W c n (execs rest env) Q s') (hk : autoParam (env.scope.kind = .function) tacR) (hx : autoParam (isLC (env.kindOf x) = true) tacR) :
    W c n (execs (.AugAssign (.Name x xp) .Add e pos :: rest) env) Q s := by
  refine wpAny_execs_cons (wpAny_AugAssign_Name ?_)
  obtain ⟨vm, F, g⟩ := B.loc
  obtain ⟨v, ev, ⟨t, ok⟩⟩ := g x _ hl
  subst ok
  have ld : ∀ {Q' : Value → Shared → Prop}, Q' (.str i t) s → W c n (loadName env x) Q' s := fun hq => by
    rcases isLC_or hx with q | q
    · obtain ⟨m, hm, hmv⟩ := F.ns
      exact wpAny_loadName_local hk q hm ((hmv x q).trans ev) hq
    · obtain ⟨cc, hc⟩ := Option.isSome_iff_exists.mp (F.has x q)
      exact wpAny_loadName_cell hk q hc (ev ▸ F.cell x cc q hc) hq
  refine ld (wz (he s (.refl _) B.inv) (fun u s1 e1 I1 zr => ?_))
  obtain ⟨tk, r⟩ := zr
  subst r
  refine iadd_str (fun t' tk => ?_) (by show _ ≤ 2 ^ 24; omega)
  have E := e1.trans (Ext.toks s1 tk)
  exact st_name (lv := .tr (.str (i ++ j))) (B.ext E (I1.toks _)) hk hx ⟨_, rfl⟩ fun s2 B2 => h s2 B2
end

noncomputable def buildF (a : Str) : D → Str
  | .str e => a ++ "." ++ e
  | _ => a
theorem ok_build : R_build.Ok ["localetuple"] where
  mem := inF 6 rfl
  cl := rfl
  bind := fun kV doc pm an ct vs h => by
    obtain ⟨a, rfl⟩ := len1 h
    rfl
  kinds := by rfl
  nodup := by decide
  cnodup := by decide
  celled := by rfl
  co := rfl
  gen := rfl
  fun_ := rfl
theorem build_fn {c : Cx} (a : Str) (e : D) (ha : a.length ≤ 10000) (he : e = .none ∨ ∃ y : Str, e = .str y ∧ y.length ≤ 1000) : Fn c 10 (.ref 128) [.tup [.str a, e]] (.str (buildF a e)) := by
  refine Fn.intro (f := R_build) ok_build rfl (by decide) fun X₀ own s₀ s L cells hc B => ?_
  have hev : ∀ v, e ≠ .val v := by rcases he with rfl | ⟨y, rfl, _⟩ <;> exact fun v h => nomatch h
  refine st_try ?_
  refine st_unpack ["language", "encoding"] B (ev_loc B rfl) fun s1 B1 => ?_
  refine st_if B1.inv (ev_test (ev_loc B1 rfl) ev_none (cmp_isNone (d := .str a) (fun v h => nomatch h))) (fun hb => nomatch hb) fun uu s2 E2 I2 => st_nil ?_
  have B2 := B1.ext E2 I2
  refine st_if B2.inv (ev_test (ev_loc B2 rfl) ev_none (cmp_isNone hev)) (fun hb s3 E3 I3 => ?_) (fun hb s3 E3 I3 => ?_)
  · have B3 := B2.ext E3 I3
    refine st_ret B3 ((ev_loc B3 rfl).less fun a h => .inl h) fun v s' h => ?_
    rcases he with rfl | ⟨y, rfl, _⟩
    · exact h
    · cases hb
  · have B3 := B2.ext E3 I3
    rcases he with rfl | ⟨y, rfl, hy⟩
    · cases hb
    · have hd : (".": Str).length = 1 := by rfl
      refine st_ret B3 ((ev_bin B3.ex (ev_bin B3.ex (ev_loc B3 rfl) ev_str (bin_adds (by omega))) (ev_loc B3 rfl) (bin_adds (by rw [strLen_append]; omega))).less fun a h => .inl h) fun v s' h => h
end Mine
end
section
open PySem PySem.W PySem.Calls PyProof.Rows
set_option linter.unusedVariables false
set_option maxRecDepth 100000
namespace Mine
set_option genSizeOf false
set_option genInjectivity false
set_option tactic.hygienic false
structure Rs (x : Int) (a b k e g : Nat) : Prop where
  ha : x % 4 = a
  hb : x / 4 % 10 = b
  hk : x / 40 % 9 = k
  he : x / 360 % 2 = e
  hg : x / 720 % 4 = g
  la : a < 4
  lb : b < 10
  lk : k < 9
  le : e < 2
  lg : g < 4
theorem Rs.get (x : Int) : ∃ a b k e g, Rs x a b k e g := ⟨(x % 4).toNat, (x / 4 % 10).toNat, (x / 40 % 9).toNat, (x / 360 % 2).toNat, (x / 720 % 4).toNat, by constructor <;> lia⟩
noncomputable def sel4 (a : Nat) : Str := (["ab", ".", "", "~"] : List Str).getD a ""
noncomputable def codeD (g : Nat) : D := ([.none, .str "", .str "x", .str ".\n."] : List D).getD g .none
noncomputable def nameN (k e : Nat) : Str := if e = 1 then sgn k else "<" ++ sgn k ++ ">"
noncomputable def writtenN (a b k e g : Nat) : Str := buildF (stdF (sel4 a) (b * 5) (nameN k e)) (codeD g) ++ "\n"
theorem sgn_len (k : Nat) : (sgn k).length = k := by show (List.replicate k 115).toArray.size = k; simp
theorem nameN_len (k e : Nat) (h : k < 9) : (nameN k e).length ≤ 10 := by
  have h1 : ("<" : Str).length = 1 := by rfl
  have h2 : (">" : Str).length = 1 := by rfl
  unfold nameN
  split
  · rw [sgn_len]; lia
  · rw [strLen_append, strLen_append, sgn_len]; lia
theorem sel4_len (a : Nat) (h : a < 4) : (sel4 a).length ≤ 2 ∧ PyData.strOk (sel4 a) = true := by
  have : ∀ a, a < 4 → (sel4 a).length ≤ 2 ∧ PyData.strOk (sel4 a) = true := by decide +kernel
  exact this a h
theorem codeD_cases (g : Nat) (h : g < 4) : codeD g = .none ∨ ∃ y : Str, codeD g = .str y ∧ y.length ≤ 1000 := by
  obtain h | h | h | h : g = 0 ∨ g = 1 ∨ g = 2 ∨ g = 3 := by lia
  all_goals subst h
  · exact .inl rfl
  · exact .inr ⟨_, rfl, by decide⟩
  · exact .inr ⟨_, rfl, by decide⟩
  · exact .inr ⟨_, rfl, by decide⟩
theorem stdF_len (a : Str) (p : Int) (nm : Str) (ha : a.length ≤ 10) (hp0 : 0 ≤ p) (hp1 : p < 1000) (hn : nm.length ≤ 100) : (stdF a p nm).length ≤ 1000 := by
  have h1 : (":" : Str).length = 1 := by rfl
  have h2 : ("(" : Str).length = 1 := by rfl
  have h3 : (")" : Str).length = 1 := by rfl
  have h4 : ("{" : Str).length = 1 := by rfl
  have h5 : ("}" : Str).length = 1 := by rfl
  have h6 : (Str.ofString (toString p)).length ≤ 10 := toString_length_le (k := 10) hp0 (by decide) (by lia)
  have h7 := Txt.slice_le nm (some 1) (some (-1))
  unfold stdF
  split
  · split
    · rw [strLen_append, strLen_append]; lia
    · lia
  · rw [strLen_append, strLen_append, strLen_append, strLen_append, strLen_append]; lia
theorem ok_written : R_written.Ok ["x"] where
  mem := inF 15 rfl
  cl := rfl
  bind := fun kV doc pm an ct vs h => by
    obtain ⟨a, rfl⟩ := len1 h
    rfl
  kinds := by rfl
  nodup := by decide
  cnodup := by decide
  celled := by rfl
  co := rfl
  gen := rfl
  fun_ := rfl
theorem ok_sent : R_sent.Ok ["x"] where
  mem := inF 16 rfl
  cl := rfl
  bind := fun kV doc pm an ct vs h => by
    obtain ⟨a, rfl⟩ := len1 h
    rfl
  kinds := by rfl
  nodup := by decide
  cnodup := by decide
  celled := by rfl
  co := rfl
  gen := rfl
  fun_ := rfl
section
variable {c : Cx} {n : Nat} {env : Env} {X X₀ own Z : Addr → Prop} {hA : Heap} {os : OsState} {s s' : Shared} {σ : List (Str × LV)} {d : D} {ds : List D} {pos : Pos} {rest body : List Stmt} {Q : Flow → Shared → Prop}
theorem ev_as {t : Sem Value} {d' : D} (h : EvD c n X s t d) (e : d = d') : EvD c n X s t d' := e ▸ h
theorem ev_fn {f : FnRec} {x : Str} {p : Pos} (O : c.Ok) (I : Inv c s) (hf : f ∈ FNS.drop 9) (hn : f.nm = x) (hk : autoParam (env.scope.kind = .function) tacR) (hx : autoParam (env.kindOf x = some .globalImplicit) tacR) (hgl : autoParam (env.globals = mainGlobals) tacR) (hd : autoParam ((x == ("__debug__" : Str)) = false) tacD) :
    EvV c n s (eval (.Name x p) env) (.ref f.a) := ev_global I (hn ▸ O.fn f hf) hk hx hgl hd
theorem ev_pick {elts : List Expr} {sl : Expr} {p : Pos} {i : Nat} {ds : List D} (hX : ∀ a, X a → (s.heap.get? a).isSome = true) (h : EvEs c n X s env elts ds) (h2 : EvD c n X s (eval sl env) (.int i)) (hd : ds[i]? = some d) (hi : i < 1000)
    (hsz : autoParam (Nat.ble ds.length 1000 = true) tacR) (hns : autoParam (noStar elts = true) tacR)
    (hs : autoParam (∀ t k u, subscripted sl false (.ref t) (.int k u) = operate [.ref t, .int k u] (getItem (.ref t) (.int k u))) tacW) : EvD c n X s (eval (.Subscript (.List elts p) sl pos) env) d :=
  ev_item_lst ((evn_lst h hsz hns).tr hX) h2 (by lia) (by lia) (by simpa using hd) hs
end
theorem written_fn {c : Cx} (O : c.Ok) (x : Int) (hx : 0 ≤ x) {a b k e g : Nat} (R : Rs x a b k e g) : Fn c 5 (.ref 215) [.int x] (.str (writtenN a b k e g)) := by
  refine Fn.intro (f := R_written) ok_written rfl (by decide) fun X₀ own s₀ s L cells hc B => ?_
  have hk8 : k ≤ 8 := by have := R.lk; lia
  have hl1 : ("<" : Str).length = 1 := by rfl
  have hl2 : (">" : Str).length = 1 := by rfl
  have hl3 : ("\n" : Str).length = 1 := by rfl
  have hsl := sgn_len k
  refine st_assign (d := .str (sgn k)) B (ev_bin B.ex ev_str (ev_bin B.ex (ev_bin B.ex (ev_loc B rfl) ev_int (bin_fdiv (by decide) (by decide))) ev_int (by have := bin_mod (c := c) (n := 6) (a := x / 40) (b := 9) (by decide); rwa [R.hk] at this)) (bin_sgn hk8)) fun s1 B1 => ?_
  refine st_assign (d := .str (nameN k e)) B1 (ev_ifexp (b := decide (e = 1)) (ev_test (ev_bin B1.ex (ev_bin B1.ex (ev_loc B1 rfl) ev_int (bin_fdiv (by decide) (by decide))) ev_int (bin_mod (by decide))) ev_int (by
      have := cmp_eq (c := c) (n := 6) (a := x / 360 % 2) (b := 1)
      have e1 : (x / 360 % 2 == 1) = decide (e = 1) := by rw [R.he, Bool.eq_iff_iff]; simp; lia
      rwa [e1] at this)) (fun hb => ?_) (fun hb => ?_)) fun s2 B2 => ?_
  · rw [nameN, if_pos (of_decide_eq_true hb)]; exact ev_loc B1 rfl
  · rw [nameN, if_neg (of_decide_eq_false hb)]
    exact ev_bin B1.ex (ev_bin B1.ex ev_str (ev_loc B1 rfl) (bin_adds (by lia))) ev_str (bin_adds (by rw [strLen_append]; lia))
  refine st_assign (d := .tup [.str (sel4 a), .int (b * 5), .str (nameN k e)]) B2 (ev_tup B2.ex (.cons (ev_pick (i := a) B2.ex (.cons ev_str (.cons ev_str (.cons ev_str (.cons ev_str .nil)))) ?_ ?_ (by have := R.la; lia)) (.cons ?_ (.cons (ev_loc B2 rfl) .nil)))) fun s3 B3 => ?_
  · exact ev_as (ev_bin B2.ex (ev_loc B2 rfl) ev_int (bin_mod (by decide))) (congrArg D.int R.ha)
  · obtain h | h | h | h : a = 0 ∨ a = 1 ∨ a = 2 ∨ a = 3 := by have := R.la; lia
    all_goals subst h; rfl
  · exact ev_as (ev_bin B2.ex (ev_bin B2.ex (ev_bin B2.ex (ev_loc B2 rfl) ev_int (bin_fdiv (by decide) (by decide))) ev_int (bin_mod (by decide))) ev_int (bin_mul (by lia) (by lia))) (by rw [R.hb])
  refine st_assign (d := codeD g) B3 (ev_pick (i := g) B3.ex (.cons ev_none (.cons ev_str (.cons ev_str (.cons ev_str .nil)))) ?_ ?_ (by have := R.lg; lia)) fun s4 B4 => ?_
  · exact ev_as (ev_bin B3.ex (ev_bin B3.ex (ev_loc B3 rfl) ev_int (bin_fdiv (by decide) (by decide))) ev_int (bin_mod (by decide))) (congrArg D.int R.hg)
  · obtain h | h | h | h : g = 0 ∨ g = 1 ∨ g = 2 ∨ g = 3 := by have := R.lg; lia
    all_goals subst h; rfl
  have hsel := sel4_len a R.la
  have hnm := nameN_len k e R.lk
  have hb10 := R.lb
  have hst := stdF_len (sel4 a) (b * 5) (nameN k e) (by lia) (by lia) (by lia) (by lia)
  have hcd := codeD_cases g R.lg
  have hbl : (buildF (stdF (sel4 a) (b * 5) (nameN k e)) (codeD g)).length ≤ 3000 := by
    have h4 : ("." : Str).length = 1 := by rfl
    rcases hcd with h | ⟨y, h, hy⟩
    · rw [h]; show (stdF _ _ _).length ≤ _; lia
    · rw [h]; show (stdF _ _ _ ++ "." ++ y).length ≤ _
      rw [strLen_append, strLen_append]; lia
  refine st_ret B4 ((ev_bin (d1 := .str (buildF (stdF (sel4 a) (b * 5) (nameN k e)) (codeD g))) B4.ex (ev_callN (f := R_build) (ds := [.tup [.str (stdF (sel4 a) (b * 5) (nameN k e)), codeD g]]) B4.ex (ev_global B4.inv O.build) (inF 6 rfl) (Fn.weak (build_fn _ _ (by lia) hcd) (by decide))
    (.cons (ev_tup B4.ex (.cons (ev_callN (f := R_std) (ds := [.tup [.str (sel4 a), .int (b * 5), .str (nameN k e)]]) B4.ex (ev_fn O B4.inv (inF 0 rfl) rfl) (inF 9 rfl) (Fn.weak (std_fn _ _ _ (by lia) hsel.2 (by lia) (by lia) (by lia)) (by decide)) (.cons (ev_loc B4 rfl) .nil)) (.cons (ev_loc B4 rfl) .nil))) .nil)) ev_str (bin_adds (by lia))).less fun a h => .inl h) fun v s' h => h
end Mine
end
section
open PySem PySem.W PySem.Calls PyProof.Rows
set_option linter.unusedVariables false
set_option maxRecDepth 100000
namespace Mine
set_option genSizeOf false
set_option genInjectivity false
set_option tactic.hygienic false
noncomputable def selS (a : Nat) : Str := (["ab", "..", "", "~"] : List Str).getD a ""
noncomputable def numS (b : Nat) : Str := (["0", "5", "10", "15", "20", "25", "30", "35", "40", "45"] : List Str).getD b ""
noncomputable def tailS (g : Nat) : Str := (["", ".", ".x", "..\r\n.."] : List Str).getD g ""
noncomputable def headN (a b k e : Nat) : Str := if a = 3 ∧ b = 0 then (if e = 1 then sgn k else "{" ++ sgn k ++ "}") else (selS a ++ ":" ++ numS b) ++ (if e = 1 then "(" ++ sgn k ++ ")" else "(<" ++ sgn k ++ ">)")
noncomputable def tailN (h t : Str) : Str := if h == ("" : Str) && t != ("" : Str) then "." ++ t else t
noncomputable def sentN (a b k e g : Nat) : Str := headN a b k e ++ tailN (headN a b k e) (tailS g) ++ "\r\n"
theorem sel_lens : (∀ a, (selS a).length ≤ 2) ∧ (∀ a, (numS a).length ≤ 2) ∧ (∀ a, (tailS a).length ≤ 8) := by
  refine ⟨fun a => ?_, fun a => ?_, fun a => ?_⟩
  · match a with
    | 0 | 1 | 2 | 3 => decide +kernel
    | n + 4 => exact Nat.zero_le _
  · match a with
    | 0 | 1 | 2 | 3 | 4 | 5 | 6 | 7 | 8 | 9 => decide +kernel
    | n + 10 => exact Nat.zero_le _
  · match a with
    | 0 | 1 | 2 | 3 => decide +kernel
    | n + 4 => exact Nat.zero_le _
set_option maxHeartbeats 2000000 in
theorem sent_fn {c : Cx} (O : c.Ok) (x : Int) (hx : 0 ≤ x) {a b k e g : Nat} (R : Rs x a b k e g) : Fn c 5 (.ref 222) [.int x] (.str (sentN a b k e g)) := by
  refine Fn.intro (f := R_sent) ok_sent rfl (by decide) fun X₀ own s₀ s L cells hc B => ?_
  have hk8 : k ≤ 8 := by have := R.lk; lia
  have l1 : ("{" : Str).length = 1 := by rfl
  have l2 : ("}" : Str).length = 1 := by rfl
  have l3 : (":" : Str).length = 1 := by rfl
  have l4 : ("(" : Str).length = 1 := by rfl
  have l5 : (")" : Str).length = 1 := by rfl
  have l6 : ("(<" : Str).length = 2 := by rfl
  have l7 : (">)" : Str).length = 2 := by rfl
  have l8 : ("." : Str).length = 1 := by rfl
  have l9 : ("\r\n" : Str).length = 2 := by rfl
  have hsl := sgn_len k
  obtain ⟨z1, z2, z3⟩ := sel_lens
  refine st_assign (d := .str (sgn k)) B (ev_bin B.ex ev_str (ev_bin B.ex (ev_bin B.ex (ev_loc B rfl) ev_int (bin_fdiv (by decide) (by decide))) ev_int (by have := bin_mod (c := c) (n := 6) (a := x / 40) (b := 9) (by decide); rwa [R.hk] at this)) (bin_sgn hk8)) fun s1 B1 => ?_
  refine st_assign (d := .bool (decide (e = 1))) B1 (ev_cmp (ev_bin B1.ex (ev_bin B1.ex (ev_loc B1 rfl) ev_int (bin_fdiv (by decide) (by decide))) ev_int (bin_mod (by decide))) ev_int (by
      have := cmp_eq (c := c) (n := 6) (a := x / 360 % 2) (b := 1)
      have e1 : (x / 360 % 2 == 1) = decide (e = 1) := by rw [R.he, Bool.eq_iff_iff]; simp; lia
      rwa [e1] at this)) fun s2 B2 => ?_
  refine st_assign (d := .int (b * 5)) B2 (ev_as (ev_bin B2.ex (ev_bin B2.ex (ev_bin B2.ex (ev_loc B2 rfl) ev_int (bin_fdiv (by decide) (by decide))) ev_int (bin_mod (by decide))) ev_int (bin_mul (by lia) (by lia))) (by rw [R.hb])) fun s3 B3 => ?_
  -- the rest, once the head is known
  have fin : ∀ s4, Bd c (R_sent.env L cells) X₀ own (fun uu => False) s₀.heap s₀.os s4 [("head", LV.tr (.str (headN a b k e))), ("x", LV.tr (.int x))] → (headN a b k e).length ≤ 100 →
      W c 6 (execs ((bodyOf R_sent.st).drop 4) (R_sent.env L cells)) (Rt c X₀ (fun uu => False) s₀.heap s₀.os (.str (sentN a b k e g))) s4 := by
    intro s4 B4 hl
    refine st_assign (d := .str (tailS g)) B4 (ev_pick (i := g) B4.ex (.cons ev_str (.cons ev_str (.cons ev_str (.cons ev_str .nil)))) (ev_as (ev_bin B4.ex (ev_bin B4.ex (ev_loc B4 rfl) ev_int (bin_fdiv (by decide) (by decide))) ev_int (bin_mod (by decide))) (congrArg D.int R.hg)) ?_ (by have := R.lg; lia)) fun s5 B5 => ?_
    · obtain h | h | h | h : g = 0 ∨ g = 1 ∨ g = 2 ∨ g = 3 := by have := R.lg; lia
      all_goals subst h; rfl
    have z := z3 g
    have last : ∀ s6 t, t.length ≤ 10 → Bd c (R_sent.env L cells) X₀ own (fun uu => False) s₀.heap s₀.os s6 [("tail", LV.tr (.str t)), ("head", LV.tr (.str (headN a b k e)))] →
        W c 6 (execs ((bodyOf R_sent.st).drop 6) (R_sent.env L cells)) (Rt c X₀ (fun uu => False) s₀.heap s₀.os (.str (headN a b k e ++ t ++ "\r\n"))) s6 := by
      intro s6 t ht B6
      exact st_ret B6 ((ev_bin B6.ex (ev_bin B6.ex (ev_loc B6 rfl) (ev_loc B6 rfl) (bin_adds (by lia))) ev_str (bin_adds (by rw [strLen_append]; lia))).less fun a h => .inl h) fun v s' h => h
    refine st_if B5.inv (ev_and (ev_test (ev_loc B5 rfl) ev_str cmp_eqs) fun uu => ev_test (ev_loc B5 rfl) ev_str cmp_nes) (fun hb s6 E6 I6 => ?_) (fun hb s6 E6 I6 => ?_)
    · have B6 := B5.ext E6 I6
      refine st_assign B6 (ev_bin B6.ex ev_str (ev_loc B6 rfl) (bin_adds (by lia))) fun s7 B7 => st_nil ?_
      have := last s7 ("." ++ tailS g) (by rw [strLen_append]; lia) (B7.pick (by
        exact (pk rfl (pk rfl pk0))))
      rw [sentN, tailN, if_pos hb]; exact this
    · have B6 := B5.ext E6 I6
      refine st_nil ?_
      have := last s6 (tailS g) (by lia) (B6.pick (by
        exact (pk rfl (pk rfl pk0))))
      rw [sentN, tailN, if_neg (by rw [hb]; decide)]; exact this
  have cond : ((a : Int) == 3 && (b : Int) * 5 == 0) = decide (a = 3 ∧ b = 0) := by rw [Bool.eq_iff_iff]; simp; lia
  refine st_if (b := (x % 4 == 3) && ((b : Int) * 5 == 0)) B3.inv (ev_and (ev_test (ev_bin B3.ex (ev_loc B3 rfl) ev_int (bin_mod (by decide))) ev_int cmp_eq) fun uu => ev_test (ev_loc B3 rfl) ev_int cmp_eq) (fun hb s4 E4 I4 => ?_) (fun hb s4 E4 I4 => ?_)
  · rw [R.ha, cond] at hb
    have hb := of_decide_eq_true hb
    have B4 := B3.ext E4 I4
    refine st_assign (d := .str (headN a b k e)) B4 (ev_ifexp (b := decide (e = 1)) (ev_true (ev_loc B4 rfl)) (fun h => ?_) (fun h => ?_)) fun s5 B5 => st_nil (fin s5 (B5.pick (by
        exact (pk rfl (pk rfl pk0)))) ?_)
    · rw [headN, if_pos hb, if_pos (of_decide_eq_true h)]; exact ev_loc B4 rfl
    · rw [headN, if_pos hb, if_neg (of_decide_eq_false h)]
      exact ev_bin B4.ex (ev_bin B4.ex ev_str (ev_loc B4 rfl) (bin_adds (by lia))) ev_str (bin_adds (by rw [strLen_append]; lia))
    · rw [headN, if_pos hb]
      split
      · lia
      · rw [strLen_append, strLen_append]; lia
  · rw [R.ha, cond] at hb
    have hb := of_decide_eq_false hb
    have B4 := B3.ext E4 I4
    have za := z1 a
    have zb := z2 b
    refine st_assign (d := .str (selS a ++ ":" ++ numS b)) B4 (ev_bin B4.ex (ev_bin B4.ex (ev_pick (i := a) B4.ex (.cons ev_str (.cons ev_str (.cons ev_str (.cons ev_str .nil)))) (ev_as (ev_bin B4.ex (ev_loc B4 rfl) ev_int (bin_mod (by decide))) (congrArg D.int R.ha)) ?_ (by have := R.la; lia)) ev_str (bin_adds (by lia)))
      (ev_pick (i := b) B4.ex (.cons ev_str (.cons ev_str (.cons ev_str (.cons ev_str (.cons ev_str (.cons ev_str (.cons ev_str (.cons ev_str (.cons ev_str (.cons ev_str .nil)))))))))) (ev_as (ev_bin B4.ex (ev_loc B4 rfl) ev_int (bin_fdiv (by decide) (by decide))) (by congr 1; lia)) ?_ (by have := R.lb; lia)) (bin_adds (by rw [strLen_append]; lia))) fun s5 B5 => ?_
    · obtain h | h | h | h : a = 0 ∨ a = 1 ∨ a = 2 ∨ a = 3 := by have := R.la; lia
      all_goals subst h; rfl
    · obtain h | h | h | h | h | h | h | h | h | h : b = 0 ∨ b = 1 ∨ b = 2 ∨ b = 3 ∨ b = 4 ∨ b = 5 ∨ b = 6 ∨ b = 7 ∨ b = 8 ∨ b = 9 := by have := R.lb; lia
      all_goals subst h; rfl
    refine st_augs (j := if e = 1 then "(" ++ sgn k ++ ")" else "(<" ++ sgn k ++ ">)") B5 rfl (ev_ifexp (b := decide (e = 1)) (ev_true (ev_loc B5 rfl)) (fun h => ?_) (fun h => ?_)) ?_ fun s6 B6 => st_nil (fin s6 (B6.pick (by
        refine al ?_ (al ?_ al0)
        · rw [headN, if_neg hb]; rfl
        · rfl)) ?_)
    · rw [if_pos (of_decide_eq_true h)]
      exact ev_bin B5.ex (ev_bin B5.ex ev_str (ev_loc B5 rfl) (bin_adds (by lia))) ev_str (bin_adds (by rw [strLen_append]; lia))
    · rw [if_neg (of_decide_eq_false h)]
      exact ev_bin B5.ex (ev_bin B5.ex ev_str (ev_loc B5 rfl) (bin_adds (by lia))) ev_str (bin_adds (by rw [strLen_append]; lia))
    · split <;> (simp only [strLen_append]; lia)
    · rw [headN, if_neg hb]
      split <;> (simp only [strLen_append]; lia)
end Mine
end
section
open PySem PySem.Sre PySem.W PySem.Calls PyProof.Rows
set_option maxRecDepth 100000
namespace Mine
set_option genSizeOf false
set_option genInjectivity false
set_option tactic.hygienic false
theorem pa_re : PlainAttrs "re.Pattern" :=
  ⟨⟨"object.__getattribute__", by rw [typeLookup_type, builtinLookup_eq_fast]; kernel_rfl, by decide +kernel⟩, by rw [typeLookup_type, builtinLookup_eq_fast]; kernel_rfl⟩
theorem slot_sub : Slot "re.Pattern" "sub" "re.Pattern.sub" :=
  .of (owner := "re.Pattern") (n := "sub") (by rw [typeLookup_type, builtinLookup_eq_fast]; kernel_rfl) (by decide +kernel) (by decide +kernel) (by decide +kernel)
    (by first | exact .inl (by decide +kernel) | exact .inr (by decide +kernel)) (by rw [isSubtype_type]; kernel_rfl)
theorem type_sub : typeOf (.builtin "re.Pattern.sub") = pure (.type "method_descriptor") := by show builtinType _ = _; rw [builtinType_eq_fast]; kernel_rfl
theorem entry_sub : entryFor table "re.Pattern.sub" = some Builtin.«re.Pattern.sub» := entryFor_of_tree (by kernel_rfl)
theorem entry_sub_loop : entryFor table "re.Pattern.sub.loop" = some Builtin.«re.Pattern.sub.loop» := entryFor_of_tree (by kernel_rfl)
theorem plain_sub_loop : plainId "re.Pattern.sub.loop" = true := by decide +kernel
theorem args_sub (a b c : Value) : argsOk "re.Pattern.sub" ⟨[a, b, c], []⟩ := by
  unfold argsOk; kernel_rfl
theorem str_call : typeLookup (.type "str") "__call__" = pure none := by rw [typeLookup_type, builtinLookup_eq_fast]; kernel_rfl
theorem sub_named (r x : Value) : Builtin.Re.reNamed "re.Pattern.sub" "sub" ["repl", "string", "count"] 2 [r, x] [] = pure [some r, some x, none] := rfl
end Mine
end
section
open PySem PySem.W PySem.Calls PyProof.Rows
set_option linter.unusedVariables false
set_option maxRecDepth 100000
namespace Mine
set_option genSizeOf false
set_option genInjectivity false
set_option tactic.hygienic false
open PySem.Builtin.Re
section
variable {Mo : Model} {A : Around} {E : Value → Shared → Prop} {s : Shared}
theorem ends_split {a b : Nat} {m : Sre.M} {P : Sre.M → Prop} (h : Ends (a + b) m P) (hn : ¬ (Sre.M.runFor a m).outcome.isSome = true) : Ends b (Sre.M.runFor a m) P := by
  obtain ⟨m', h1, h2, h3⟩ := h
  exact ⟨m', h1, h2, by rw [← runFor_add]; exact h3⟩
theorem ends_some {a b : Nat} {m : Sre.M} {P : Sre.M → Prop} (h : Ends (a + b) m P) (hn : (Sre.M.runFor a m).outcome.isSome = true) : P (Sre.M.runFor a m) := by
  obtain ⟨m', h1, h2, h3⟩ := h
  rw [runFor_add, runFor_done hn] at h3
  exact h3 ▸ h2
theorem reDrive_succ (t : Nat) (m : Sre.M) : reDrive (t + 1) m = (if (Sre.M.runFor reTurnSteps m).outcome.isSome = true then pure (Sre.M.runFor reTurnSteps m) else do rule "sre.turn"; reDrive t (Sre.M.runFor reTurnSteps m)) := rfl
theorem wp_drive {P : Sre.M → Prop} {Q : Sre.M → Shared → Prop} (hQ : ∀ m, P m → Q m s) : ∀ (j turns : Nat) (m : Sre.M), j < turns → Ends (4 * (j + 1)) m P → wpAny Mo A (reDrive turns m) Q E s
  | j, 0, m, h, u1 => absurd h (Nat.not_lt_zero _)
  | 0, t + 1, m, h, e => by
    rw [reDrive_succ]
    have hs : (Sre.M.runFor 4 m).outcome.isSome = true := by
      obtain ⟨m', h1, h2, h3⟩ := e
      rw [show 4 * (0 + 1) = 4 from rfl] at h3
      rw [h3]; exact h1
    rw [show reTurnSteps = 4 from rfl, if_pos hs]
    exact wpAny_pure (hQ _ (ends_some (a := 4) (b := 0) e hs))
  | j + 1, t + 1, m, h, e => by
    rw [reDrive_succ, show reTurnSteps = 4 from rfl]
    have e : Ends (4 + 4 * (j + 1)) m P := by rwa [show 4 * (j + 1 + 1) = 4 + 4 * (j + 1) by omega] at e
    by_cases hs : (Sre.M.runFor 4 m).outcome.isSome = true
    · rw [if_pos hs]; exact wpAny_pure (hQ _ (ends_some e hs))
    · rw [if_neg hs]
      exact wpAny_bind (wpAny_rule (wp_drive hQ j t _ (by omega) (ends_split e hs)))
theorem wp_rules {l : List Nat} {f : Nat → PUnit → Sem (ForInStep PUnit)} {Q : PUnit → Shared → Prop} (hf : ∀ x s (R : ForInStep PUnit → Shared → Prop), R (.yield ⟨⟩) s → wpAny Mo A (f x ⟨⟩) R E s) (h : Q ⟨⟩ s) : wpAny Mo A (forIn l ⟨⟩ f) Q E s := by
  induction l with
  | nil => rw [List.forIn_nil]; exact wpAny_pure h
  | cons x l ih =>
    rw [List.forIn_cons]
    exact wpAny_bind (hf x s _ ih)
theorem wp_toEnd {m : Sre.M} {r : Option Nat} {k : Nat} {Q : Option Sre.M → Shared → Prop} (e : Ends k m (Good r)) (hk : k ≤ 4000000) (hQ : match r with | some q => ∀ m', m'.start = q → m'.handed = q + 1 → Q (some m') s | none => Q none s) : wpAny Mo A (reRunToEnd m) Q E s := by
  unfold reRunToEnd
  refine wpAny_bind (wp_drive (P := Good r) (fun m' hm => ?_) 999999 _ m (by decide) (e.more (by omega)))
  refine wpAny_bind (wp_rules (fun x s R h => ?_) ?_)
  · skip
    split
    · first | exact wpAny_bind (wpAny_rule (wpAny_pure h)) | exact wpAny_bind (wpAny_bind (wpAny_rule (wpAny_pure h)))
    · first | exact wpAny_pure h | exact wpAny_bind (wpAny_pure (wpAny_pure h)) 
  cases r with
  | none =>
    have hm : m'.outcome = some .failed := hm
    rw [hm]
    exact wpAny_pure hQ
  | some q =>
    obtain ⟨h1, h2, h3⟩ := hm
    rw [h1]
    exact wpAny_pure (hQ m' h2 h3)
end
end Mine
end
section
open PySem PySem.W PySem.Calls PyProof.Rows
set_option linter.unusedVariables false
set_option maxRecDepth 100000
namespace Mine
set_option genSizeOf false
set_option genInjectivity false
set_option tactic.hygienic false
open PySem.Builtin.Re
inductive PatOk (h : Heap) (a : Addr) (code : Array Nat) : Prop
  | mk (o : Obj) (fs : Array Value) (ct : Addr) (oc : Obj) (items : Array Value) (n : Nat) (h1 : h.get? a = some o) (h2 : o.cls = .type "re.Pattern") (h3 : o.dict = none) (h4 : o.data = .fields fs) (h5 : fs.getD 5 .none = .ref ct) (h6 : reRawNat (fs.getD 6 .none) = 0) (h7 : reRawNat (fs.getD 2 .none) = 0) (h8 : h.get? ct = some oc) (h9 : oc.cls ≠ .none) (h10 : oc.data = .seq items n) (h11 : (items.map reRawOf).map (·.toNat) = code) : PatOk h a code
theorem PatOk.keep {h h' : Heap} {a : Addr} {code : Array Nat} (x : PatOk h a code) (k : Keep h h') : PatOk h' a code := by
  obtain ⟨o, fs, ct, oc, items, n, h1, h2, h3, h4, h5, h6, h7, h8, h9, h10, h11⟩ := x
  exact ⟨o, fs, ct, oc, items, n, k.get h1 (by rw [h2]; intro e; cases e), h2, h3, h4, h5, h6, h7, k.get h8 h9, h9, h10, h11⟩
section
variable {Mo : Model} {A : Around} {E : Value → Shared → Prop} {s : Shared}
theorem wp_target {a : Addr} {code : Array Nat} {x : Str} {t : Tok} {Q : ReTarget → Shared → Prop} (hp : PatOk s.heap a code) (h : Q { pattern := .ref a, string := .str x t, code, text := x.cps, kind := 0, groups := 0, pos := 0, lim := x.cps.size } s) : wpAny Mo A (reWholeTarget (.ref a) (.str x t)) Q E s := by
  obtain ⟨o, fs, ct, oc, items, n, h1, h2, h3, h4, h5, h6, h7, h8, h9, h10, h11⟩ := hp
  unfold reWholeTarget
  refine wpAny_bind (wpAny_fieldsOf h1 h4 ?_)
  refine wpAny_bind (wpAny_pure (a := (x.cps, 0)) ?_)
  show wpAny _ _ (do
    if reRawNat (fs.getD 6 .none) == 0 && (0 : Nat) == 1 then raiseError "TypeError" "cannot use a string pattern on a bytes-like object"
    if reRawNat (fs.getD 6 .none) == 1 && (0 : Nat) == 0 then raiseError "TypeError" "cannot use a bytes pattern on a string-like object"
    reNoCollectionInside (.str x t) 0
    pure { pattern := .ref a, string := .str x t, code := (← reRawItems (fs.getD 5 .none)).map (·.toNat), text := x.cps, kind := 0, groups := reRawNat (fs.getD 2 .none), pos := 0, lim := x.cps.size }) Q E s
  rw [h6, h7, h5]
  show wpAny _ _ (reRawItems (.ref ct) >>= _) Q E s
  unfold reRawItems
  refine wpAny_bind (wpAny_bind (wpAny_seqItems h8 h10 (wpAny_pure (wpAny_pure ?_))))
  show Q { pattern := .ref a, string := .str x t, code := (items.map reRawOf).map (·.toNat), text := x.cps, kind := 0, groups := 0, pos := 0, lim := x.cps.size } s
  rw [h11]; exact h
end
noncomputable def cat : List Str → List Nat
  | [] => []
  | x :: r => x.cps.toList ++ cat r
theorem cat_app (l m : List Str) : cat (l ++ m) = cat l ++ cat m := by
  induction l with
  | nil => rfl
  | cons x l ih => rw [List.cons_append, cat, cat, ih, List.append_assoc]
theorem join_cat : ∀ l : List Str, (Txt.join ⟨#[]⟩ l) = ⟨(cat l).toArray⟩ := by
  intro l
  unfold Txt.join
  rw [StrLaws.glued_eq_join]
  induction l with
  | nil => rfl
  | cons x r ih =>
    rw [join_nil_cons, ih, cat]
    apply congrArg Str.mk
    apply Array.toList_inj.mp
    simp
theorem join_ok (l : List Str) (h : (cat l).length ≤ 100000) : JoinOk ⟨#[]⟩ l = true := by
  have key : ∀ (l : List Str) (k : Nat), l.foldl (fun a x => a + x.length + (⟨#[]⟩ : Str).length) k = k + (cat l).length := by
    intro l
    induction l with
    | nil => intro k; rfl
    | cons x l ih =>
      intro k
      rw [List.foldl_cons, ih, cat, List.length_append, Array.length_toList]
      show k + x.length + 0 + _ = k + (x.length + _)
      lia
  unfold JoinOk
  rw [Bool.not_eq_true', List.foldl_toArray, key]
  unfold Builtin.Str.tooLong
  exact decide_eq_false (by show ¬ (_ > 2 ^ 24); lia)

noncomputable def expd (hit : Nat → Bool) (repl : List Nat) (T : Array Nat) : Nat → Nat → List Nat
  | 0, u1 => []
  | n + 1, p => (if hit p then repl else [T.getD p 0]) ++ expd hit repl T n (p + 1)
theorem expd_add (hit : Nat → Bool) (repl : List Nat) (T : Array Nat) : ∀ (a b p : Nat), expd hit repl T (a + b) p = expd hit repl T a p ++ expd hit repl T b (p + a)
  | 0, b, p => by rw [Nat.zero_add, Nat.add_zero]; rfl
  | a + 1, b, p => by
    rw [Nat.succ_add, expd, expd, expd_add hit repl T a b (p + 1), List.append_assoc, show p + 1 + a = p + (a + 1) by lia]
theorem expd_no (hit : Nat → Bool) (repl : List Nat) (T : Array Nat) : ∀ (n p : Nat), (∀ j, p ≤ j → j < p + n → hit j = false) → p + n ≤ T.size → expd hit repl T n p = (T.extract p (p + n)).toList
  | 0, p, u1, u2 => by simp [expd]
  | n + 1, p, h, hs => by
    rw [expd, h p (Nat.le_refl _) (by lia), if_neg (by decide), expd_no hit repl T n (p + 1) (fun j h1 h2 => h j (by lia) (by lia)) (by lia)]
    have e1 : T.getD p 0 = T[p]'(by lia) := by simp [Array.getD, show p < T.size by lia]
    rw [e1, show p + 1 + n = p + (n + 1) by lia]
    apply List.ext_getElem
    · simp; lia
    · intro i h1 h2
      rcases i with _ | i
      · simp
      · simp; congr 1; lia
theorem expd_len (hit : Nat → Bool) (repl : List Nat) (T : Array Nat) (hr : repl.length ≤ 10) : ∀ (n p : Nat), (expd hit repl T n p).length ≤ 10 * n
  | 0, p => Nat.zero_le _
  | n + 1, p => by
    rw [expd, List.length_append]
    have := expd_len hit repl T hr n (p + 1)
    split
    · lia
    · simp only [List.length_cons, List.length_nil]; lia
section
variable {c : Cx} {n : Nat} {A : Around} {E : Value → Shared → Prop} {s s₀ : Shared}
theorem upd_piece {P : Addr} {vs : Array Value} {v : Value} {Q : Unit → Shared → Prop} (hP : IsL s.heap P vs) (e : Ext s₀ s) (I : Inv c s) (hf : s₀.heap.get? P = none) (far : @LT.lt Nat _ 256 P) (hsz : vs.size ≤ 100000)
    (h : ∀ s', Ext s₀ s' → Inv c s' → IsL s'.heap P (vs.push v) → Q () s') : wpAny (model PR c.w) A (updateSeq P (·.push v)) Q E s := by
  obtain ⟨m, hm⟩ := hP
  refine wpAny_updateSeq hm rfl ?_ (by show _ ≤ 2 ^ 24; lia) (by show (vs.push v).size ≤ 2 ^ 24 + 1; simp; lia)
  obtain ⟨k, hk⟩ := mapSeq_lst (·.push v) vs m
  have hs : Heap.SameBut P s.heap (s.heap.update P (Obj.mapSeq (·.push v))) := .update ..
  have hg : (s.heap.update P (Obj.mapSeq (·.push v))).get? P = some (lstO (vs.push v) k) := (Heap.get?_update_self _ hm (by rw [hk]; rfl)).trans (by rw [hk])
  refine h _ ⟨fun b o hb => ?_, e.os⟩ (I.sameBut (t := s.toks) hs far) ⟨k, hg⟩
  rcases e.keep b o hb with q | ⟨hb', ps, more, rfl, q⟩
  · refine .inl ((hs.2 b ?_).trans q)
    rintro rfl; rw [hf] at hb; cases hb
  · refine .inr ⟨hb', ps, more, rfl, (hs.2 b ?_).trans q⟩
    rintro rfl; rw [hf] at hb; cases hb
end
end Mine
end
section
open PySem PySem.W PySem.Calls PyProof.Rows
set_option linter.unusedVariables false
set_option maxRecDepth 100000
namespace Mine
set_option genSizeOf false
set_option genInjectivity false
set_option tactic.hygienic false
open PySem.Builtin.Re
noncomputable def Finds (code : Array Nat) (T : Array Nat) (hit : Nat → Bool) : Prop := ∀ p, p ≤ T.size → Ends (4 * T.size + 100) (Sre.forSearch code T 0 p T.size false) (Good (firstHit hit (T.size - p) p))
theorem expd_ge (hit : Nat → Bool) (repl : List Nat) (T : Array Nat) (hr : repl ≠ []) : ∀ (n p : Nat), n ≤ (expd hit repl T n p).length
  | 0, p => Nat.zero_le _
  | n + 1, p => by
    rw [expd, List.length_append]
    have := expd_ge hit repl T hr n (p + 1)
    have h2 : 0 < repl.length := List.length_pos_iff.mpr hr
    split
    · omega
    · simp only [List.length_cons, List.length_nil]; omega
section
variable {c : Cx} {n : Nat} {A : Around} {s s₀ : Shared} {R : Result → Shared → Prop}
theorem strV_push (ps : List (Str × Tok)) (x : Str) (t : Tok) : (strValues ps).toArray.push (.str x t) = (strValues (ps ++ [(x, t)])).toArray := by
  simp [strValues]
theorem cat_push (ps : List (Str × Tok)) (x : Str) (t : Tok) : cat ((ps ++ [(x, t)]).map (·.1)) = cat (ps.map (·.1)) ++ x.cps.toList := by
  rw [List.map_append, cat_app]; simp [cat]
noncomputable abbrev RR (c : Cx) (A : Around) (R : Result → Shared → Prop) : PySem.Fin → Shared → Prop := fun fin s' => match fin with | .done f => R (.ok f) s' | .again c' => c'.quiet = true ∧ codeAny (model PR c.w) A c' R s'
theorem sub_tail {x : Str} {P : Addr} {ps : List (Str × Tok)} {out : List Nat} (e : Ext s₀ s) (I : Inv c s) (hP : IsL s.heap P (strValues ps).toArray) (hne : ps ≠ []) (hc : cat (ps.map (·.1)) = out) (hsz : out.length ≤ 100000)
    (hR : ∀ t' s', Ext s₀ s' → Inv c s' → R (.ok (.ret (.str ⟨out.toArray⟩ t'))) s') :
    wpAny (model PR c.w) A.in1 (do
      let joiner ← reSlice x.cps 0 0 0
      let l ← seqItems? (.ref P)
      if (l.getD #[]).isEmpty = true then do
        let text ← pure joiner
        ret text
      else do
        let text ← call (.builtin "str.join") [joiner, .ref P]
        ret text) (RR c A R) (fun e s' => R (.error e) s') s := by
  have hs0 : (⟨x.cps.extract 0 0⟩ : Str) = ⟨#[]⟩ := by simp
  refine wpAny_bind (m := reSlice x.cps 0 0 0) ?_
  show wpAny _ _ (mkStr ⟨x.cps.extract 0 0⟩) _ _ _
  rw [hs0]
  refine wpAny_mkStr ?_ (by decide)
  obtain ⟨nn, hn⟩ := id hP
  refine wpAny_bind (m := seqItems? (.ref P)) (wpAny_seqItems hn rfl ?_)
  have : ¬ ((some (strValues ps).toArray).getD #[]).isEmpty = true := by
    cases ps with
    | nil => exact absurd rfl hne
    | cons p r => simp [strValues]
  rw [if_neg this]
  refine wpAny_bind (SC.join (hP.is) rfl (join_ok _ (by rw [hc]; exact hsz)) fun t' k => wpAny_pure ?_)
  rw [join_cat, hc]
  exact hR t' _ (e.trans ((Ext.upd _ _).trans (.upd _ _))) (I.toks _)
theorem sub_loop {a : Addr} {code : Array Nat} {x r : Str} {t tr : Tok} {hit : Nat → Bool} (hf : Finds code x.cps hit) (hpos : 0 < x.cps.size) (hsz : x.cps.size ≤ 1000) (hr : r.cps.size ≤ 10) (hrn : r.cps.toList ≠ []) (hp₀ : PatOk s₀.heap a code)
    (hR : ∀ t' s', Ext s₀ s' → Inv c s' → R (.ok (.ret (.str ⟨(expd hit r.cps.toList x.cps x.cps.size 0).toArray⟩ t'))) s') {P : Addr} (hP0 : s₀.heap.get? P = none) (far : @LT.lt Nat _ 256 P) :
    ∀ (k start : Nat) (m : Int) (s : Shared) (ps : List (Str × Tok)), x.cps.size - start < k → start ≤ x.cps.size → Ext s₀ s → Inv c s → IsL s.heap P (strValues ps).toArray → ps.length ≤ 2 * start → cat (ps.map (·.1)) = expd hit r.cps.toList x.cps start 0 →
      codeAny (model PR c.w) A (.builtin "re.Pattern.sub.loop" ⟨[.ref a, .str x t, .str r tr, rawInt 0, rawInt 0, rawInt m, rawInt start, rawInt start, .bool false, .ref P, .bool false], []⟩) R s
  | 0, u1, u2, u3, u4, h, u5, u6, u7, u8, u9, u10 => absurd h (Nat.not_lt_zero _)
  | k + 1, start, m, s, ps, hk, hst, e, I, hP, hlen, hcat => by
    refine codeAny_builtin entry_sub_loop ?_
    rw [Around.under_plainId plain_sub_loop _]
    show wpAny _ A.in1 (reWholeTarget (.ref a) (.str x t) >>= _) _ _ s
    refine wpAny_bind (wp_target (hp₀.keep e.keep) ?_)
    show wpAny _ A.in1 (reNextFound { pattern := .ref a, string := .str x t, code, text := x.cps, kind := 0, groups := 0, pos := 0, lim := x.cps.size } start false >>= _) _ _ s
    unfold reNextFound
    have hE := hf start hst
    have szl : (strValues ps).toArray.size = ps.length := by simp [strValues]
    obtain ⟨r0, hr0⟩ : ∃ r0, firstHit hit (x.cps.size - start) start = r0 := ⟨_, rfl⟩
    rw [hr0] at hE
    refine wpAny_bind (wp_toEnd hE (by omega) ?_)
    cases r0 with
    | none =>
      have hno := firstHit_none hr0
      have hout := expd_len hit r.cps.toList x.cps (by simpa using hr) x.cps.size 0
      by_cases hlt : start < x.cps.size
      · show wpAny _ A.in1 (if start < x.cps.size then _ else _) _ _ s
        rw [if_pos hlt]
        refine wpAny_bind (m := reSlice x.cps 0 start x.cps.size) ?_
        show wpAny _ _ (mkStr ⟨x.cps.extract start x.cps.size⟩) _ _ _
        refine wpAny_mkStr ?_ (by show (x.cps.extract start x.cps.size).size ≤ 2 ^ 24; simp; omega)
        refine wpAny_bind (m := updateSeq P _) (upd_piece (s := { s with toks := s.toks + 1 }) hP (e.trans (.upd _ _)) (I.toks _) hP0 far (by rw [szl]; omega) fun s2 e2 I2 hP2 => ?_)
        rw [strV_push] at hP2
        refine sub_tail (x := x) e2 I2 hP2 (by simp) ?_ (by omega) hR
        rw [cat_push, hcat]
        have := expd_add hit r.cps.toList x.cps start (x.cps.size - start) 0
        rw [show start + (x.cps.size - start) = x.cps.size by omega] at this
        rw [this, expd_no hit _ _ (x.cps.size - start) (0 + start) (fun j h1 h2 => hno j (by omega) (by omega)) (by omega)]
        rw [show 0 + start + (x.cps.size - start) = x.cps.size by omega, show 0 + start = start by omega]
      · show wpAny _ A.in1 (if start < x.cps.size then _ else _) _ _ s
        rw [if_neg hlt]
        have : start = x.cps.size := by omega
        subst this
        refine sub_tail (x := x) e I hP ?_ hcat (by omega) hR
        rintro rfl
        have h0 := expd_ge hit r.cps.toList x.cps hrn x.cps.size 0
        rw [← hcat] at h0
        exact absurd (show x.cps.size ≤ 0 from h0) (by omega)
    | some q =>
      intro m' hm1 hm2
      obtain ⟨g1, g2, g3, g4⟩ := firstHit_some hr0
      have again_ : ∀ s (ps' : List (Str × Tok)), Ext s₀ s → Inv c s → IsL s.heap P (strValues ps').toArray → ps'.length ≤ 2 * start + 1 → cat (ps'.map (·.1)) = expd hit r.cps.toList x.cps q 0 →
          wpAny (model PR c.w) A.in1 (do
            updateSeq P (·.push (.str r tr))
            again (.builtin "re.Pattern.sub.loop" ⟨[.ref a, .str x t, .str r tr, rawInt 0, rawInt 0, rawInt (m + 1), rawInt m'.handed, rawInt m'.handed, .bool (m'.handed == m'.start), .ref P, .bool false], []⟩)) (RR c A R) (fun e s' => R (.error e) s') s := by
        intro s ps' e I hP hl hc
        have szl : (strValues ps').toArray.size = ps'.length := by simp [strValues]
        refine wpAny_bind (upd_piece hP e I hP0 far (by rw [szl]; omega) fun s2 e2 I2 hP2 => ?_)
        rw [hm1, hm2, show (q + 1 == q) = false by simp]
        rw [strV_push] at hP2
        refine wpAny_pure ⟨plainId_quiet plain_sub_loop _, sub_loop hf hpos hsz hr hrn hp₀ hR hP0 far k (q + 1) (m + 1) s2 _ (by omega) (by omega) e2 I2 hP2 (by simp; omega) ?_⟩
        rw [cat_push, hc, expd_add hit _ _ q 1 0]
        show _ = _ ++ ((if hit (0 + q) = true then r.cps.toList else _) ++ [])
        rw [show 0 + q = q by omega, if_pos g3, List.append_nil]
      by_cases hlt : start < q
      · show wpAny _ A.in1 (if start < m'.start then _ else _) _ _ s
        rw [hm1, if_pos hlt]
        refine wpAny_bind (m := reSlice x.cps 0 start q) ?_
        show wpAny _ _ (mkStr ⟨x.cps.extract start q⟩) _ _ _
        refine wpAny_mkStr ?_ (by show (x.cps.extract start q).size ≤ 2 ^ 24; simp; omega)
        refine wpAny_bind (m := updateSeq P _) (upd_piece (s := { s with toks := s.toks + 1 }) hP (e.trans (.upd _ _)) (I.toks _) hP0 far (by rw [szl]; omega) fun s2 e2 I2 hP2 => ?_)
        rw [strV_push] at hP2
        have := again_ s2 _ e2 I2 hP2 (by simp; omega) (by
          rw [cat_push, hcat]
          have := expd_add hit r.cps.toList x.cps start (q - start) 0
          rw [show start + (q - start) = q by omega] at this
          rw [this, expd_no hit _ _ (q - start) (0 + start) (fun j h1 h2 => g4 j (by omega) (by omega)) (by omega)]
          rw [show 0 + start + (q - start) = q by omega, show 0 + start = start by omega])
        rw [hm1] at this
        exact this
      · show wpAny _ A.in1 (if start < m'.start then _ else _) _ _ s
        rw [hm1, if_neg hlt]
        have : start = q := by omega
        subst this
        have := again_ s ps e I hP (by omega) hcat
        rw [hm1] at this
        exact this
theorem ev_sub_call {a : Addr} {code : Array Nat} {x r : Str} {t tr : Tok} {hit : Nat → Bool} (I : Inv c s) (hp : PatOk s.heap a code) (hf : Finds code x.cps hit) (hpos : 0 < x.cps.size) (hsz : x.cps.size ≤ 1000) (hr : r.cps.size ≤ 10) (hrn : r.cps.toList ≠ []) (h92 : r.cps.contains 92 = false) :
    W c n (call (.builtin "re.Pattern.sub") [.ref a, .str r tr, .str x t]) (fun v s' => Ez c s s' (∃ t', v = .str ⟨(expd hit r.cps.toList x.cps x.cps.size 0).toArray⟩ t')) s := by
  obtain ⟨o, fs, ct, oc, items, nn, h1, h2, _⟩ := id hp
  have hT : s.TypeIs (.ref a) "re.Pattern" := ⟨o, h1, h2⟩
  refine wpAny_call (codeAny_call_builtin slot_sub.plain entry_sub (slot_sub.check _ _ _ _ _ _ _ _ hT (args_sub _ _ _) ?_))
  show wpAny _ _ (reSubstitute "re.Pattern.sub" "sub" false ⟨[.ref a, .str r tr, .str x t], []⟩) _ _ s
  unfold reSubstitute
  show wpAny _ _ (reNamed "re.Pattern.sub" "sub" ["repl", "string", "count"] 2 [.str r tr, .str x t] [] >>= _) _ _ s
  refine wpAny_bind (wpAny_of_eq (sub_named _ _) ?_)
  refine wpAny_bind (wpAny_pure (a := (0 : Int)) ?_)
  refine wpAny_bind (wpAny_specialOf (typeIs_str s r tr) str_call ?_)
  show wpAny _ _ (asStr? (.str r tr) >>= _) _ _ s
  refine wpAny_bind (wpAny_of_eq (a := some r) rfl ?_)
  show wpAny _ _ ((pure !r.cps.contains 92 : Sem Bool) >>= _) _ _ s
  rw [h92]
  refine wpAny_bind (wpAny_pure ?_)
  show wpAny _ _ ((pure ((.str r tr : Value), (0 : Int)) : Sem (Value × Int)) >>= _) _ _ s
  refine wpAny_bind (wpAny_pure ?_)
  refine wpAny_bind (wpAny_holding (wp_target hp ?_))
  show wpAny _ _ (newList [] >>= _) _ _ s
  refine wpAny_bind (wpAny_newList ?_ (by decide))
  have E1 := ext_push s { cls := .type "list", data := .seq ([] : List Value).toArray }
  refine wpAny_pure ⟨plainId_quiet plain_sub_loop _, ?_⟩
  refine sub_loop (s₀ := s) (ps := []) hf hpos hsz hr hrn hp (fun t' s' e' I' => ⟨e', I', t', rfl⟩) (size_none _) I.size (x.cps.size + 1) 0 0 _ (by omega) (by omega) E1 (I.keep E1.keep I.bare) ⟨0, Heap.get?_push_size _ rfl⟩ (by simp) rfl
end
end Mine
end
section
open PySem PySem.W PySem.Calls PyProof.Rows
set_option linter.unusedVariables false
set_option maxRecDepth 100000
namespace Mine
set_option genSizeOf false
set_option genInjectivity false
set_option tactic.hygienic false
structure Cx.Ok2 (c : Cx) : Prop extends Cx.Ok c where
  pat1 : ∀ h, c.K.In h → PatOk h 189 code1
  pat2 : ∀ h, c.K.In h → PatOk h 194 code2
noncomputable def sub2 (x : Str) : Str := ⟨(expd (hit2 x.cps) [13, 10] x.cps x.cps.size 0).toArray⟩
noncomputable def sub1 (x : Str) : Str := ⟨(expd (hit1 x.cps) [46, 46] x.cps x.cps.size 0).toArray⟩
theorem finds1 (T : Array Nat) : Finds code1 T (hit1 T) := fun p hp => (search1 T p hp).more (by omega)
theorem finds2 (T : Array Nat) (hT : ∀ q, q < T.size → T.getD q 0 ≠ 13) : Finds code2 T (hit2 T) := fun p hp => (search2 T hT p hp).more (by omega)
section
variable {c : Cx} {n : Nat} {env : Env} {X X₀ own Z : Addr → Prop} {hA : Heap} {os : OsState} {s s' : Shared} {σ : List (Str × LV)} {d : D} {ds : List D} {pos : Pos} {rest body : List Stmt} {Q : Flow → Shared → Prop}
theorem ev_sub {o : Expr} {apos : Pos} {e1 e2 : Expr} {x r : Str} {a : Addr} {code : Array Nat} {hit : Nat → Bool} (ho : EvV c n s (eval o env) (.ref a)) (hp : ∀ h, c.K.In h → PatOk h a code) (h1 : EvD c n X s (eval e1 env) (.str r)) (h2 : EvD c n X s (eval e2 env) (.str x))
    (hf : Finds code x.cps hit) (hpos : 0 < x.cps.size) (hsz : x.cps.size ≤ 1000) (hr : r.cps.size ≤ 10) (hrn : r.cps.toList ≠ []) (h92 : r.cps.contains 92 = false)
    (hns : autoParam (noStar [e1, e2] = true) tacR) (hbase : autoParam (attributeBase o "sub" env (eval o env) = eval o env) tacR) (hline : autoParam ((apos.endLine == pos.line) = true) tacR) :
    EvD c n X s (eval (.Call (.Attribute o "sub" apos) [e1, e2] [] pos) env) (.str ⟨(expd hit r.cps.toList x.cps x.cps.size 0).toArray⟩) := by
  refine ev_bmeth (T := "re.Pattern") (id := "re.Pattern.sub") (RO := fun s v => v = .ref a ∧ PatOk s.heap a code) (ho.imp fun s v uu I e => ⟨e, hp _ I.kin⟩) (fun s1 s2 v e h => ⟨h.1, h.2.keep e.keep⟩) (fun s1 v ⟨e, h⟩ => ?_) pa_re slot_sub type_sub (starEach_plain hns) EvEs.any (by simp) (EvEs.evl (.cons h1 (.cons h2 .nil))) ?_ hbase hline
  · subst e
    obtain ⟨o, fs, ct, oc, items, nn, g1, g2, g3, _⟩ := h
    exact ⟨⟨o, g1, g2⟩, fun b e => by cases e; exact ⟨o, g1, g3⟩⟩
  · rintro v vs s1 e I1 ⟨rfl, hp1⟩ ⟨u, r', rfl, ⟨t, rfl⟩, v2, r2, rfl, ⟨t2, rfl⟩, er⟩ s2 e2 I2
    have er : r2 = [] := er
    subst er
    exact ev_sub_call I2 (hp _ I2.kin) hf hpos hsz hr hrn h92
end
theorem ok_quote : R_quote.Ok ["data"] where
  mem := inF 13 rfl
  cl := rfl
  bind := fun kV doc pm an ct vs h => by
    obtain ⟨a, rfl⟩ := len1 h
    rfl
  kinds := by rfl
  nodup := by decide
  cnodup := by decide
  celled := by rfl
  co := rfl
  gen := rfl
  fun_ := rfl
theorem quote_fn {c : Cx} (O : c.Ok2) (x : Str) (hpos : 0 < x.cps.size) (hsz : x.cps.size ≤ 100) (hT : ∀ q, q < x.cps.size → x.cps.getD q 0 ≠ 13) : Fn c 10 (.ref 201) [.str x] (.str (sub1 (sub2 x))) := by
  refine Fn.intro (f := R_quote) ok_quote rfl (by decide) fun X₀ own s₀ s L cells hc B => ?_
  have hl1 := expd_len (hit2 x.cps) [13, 10] x.cps (by decide) x.cps.size 0
  have hl2 := expd_ge (hit2 x.cps) [13, 10] x.cps (by decide) x.cps.size 0
  obtain ⟨tc, htc⟩ := O.crlf
  have k1 : ("\r\n" : Str).cps.toList = [13, 10] := by decide +kernel
  have k2 : (".." : Str).cps.toList = [46, 46] := by decide +kernel
  refine st_ret B (EvD.less (X := fun a => X₀ a ∨ own a) ?_ fun a h => .inl h) fun v s' h => h
  have a1 : sub1 (sub2 x) = ⟨(expd (hit1 (sub2 x).cps) (".." : Str).cps.toList (sub2 x).cps (sub2 x).cps.size 0).toArray⟩ := by rw [k2]; rfl
  have a2 : sub2 x = ⟨(expd (hit2 x.cps) ("\r\n" : Str).cps.toList x.cps x.cps.size 0).toArray⟩ := by rw [k1]; rfl
  have s2 : (sub2 x).cps.size = (expd (hit2 x.cps) [13, 10] x.cps x.cps.size 0).length := by simp [sub2]
  rw [a1]
  refine ev_sub (ev_global B.inv O.re1) O.pat1 ev_str ?_ (finds1 _) (by omega) (by omega) (by decide +kernel) (by decide +kernel) (by decide +kernel)
  rw [a2]
  exact ev_sub (ev_global B.inv O.re2) O.pat2 ((ev_global B.inv htc).imp fun s v uu uu e => ⟨tc, e⟩) (ev_loc B rfl) (finds2 x.cps hT) hpos (by omega) (by decide +kernel) (by decide +kernel) (by decide +kernel)
end Mine
end
section
open PySem PySem.W PySem.Calls PyProof.Rows
set_option linter.unusedVariables false
set_option maxRecDepth 100000
namespace Mine
set_option genSizeOf false
set_option genInjectivity false
set_option tactic.hygienic false
noncomputable def rp (k : Nat) : List Nat := List.replicate k 115
noncomputable def selL (a : Nat) : List Nat := [[97, 98], [46], [], [126]].getD a []
noncomputable def selL' (a : Nat) : List Nat := [[97, 98], [46, 46], [], [126]].getD a []
noncomputable def numL (b : Nat) : List Nat := [[48], [53], [49, 48], [49, 53], [50, 48], [50, 53], [51, 48], [51, 53], [52, 48], [52, 53]].getD b []
noncomputable def stdL (a b k e : Nat) : List Nat := if a = 3 ∧ b = 0 then (if e = 1 then rp k else 123 :: rp k ++ [125]) else selL a ++ 58 :: numL b ++ 40 :: (if e = 1 then rp k else 60 :: rp k ++ [62]) ++ [41]
noncomputable def codeL (g : Nat) : List Nat := [[], [46], [46, 120], [46, 46, 10, 46]].getD g []
noncomputable def wl (a b k e g : Nat) : List Nat := stdL a b k e ++ codeL g ++ [10]
noncomputable def hdL (a b k e : Nat) : List Nat := if a = 3 ∧ b = 0 then (if e = 1 then rp k else 123 :: rp k ++ [125]) else selL' a ++ 58 :: numL b ++ 40 :: (if e = 1 then rp k else 60 :: rp k ++ [62]) ++ [41]
noncomputable def tlL (g : Nat) : List Nat := [[], [46], [46, 120], [46, 46, 13, 10, 46, 46]].getD g []
noncomputable def sl (a b k e g : Nat) : List Nat := hdL a b k e ++ (if (hdL a b k e).isEmpty && !(tlL g).isEmpty then 46 :: tlL g else tlL g) ++ [13, 10]
noncomputable def f2 : List Nat → List Nat
  | [] => []
  | c :: r => if c = 10 then 13 :: 10 :: f2 r else c :: f2 r
noncomputable def f1 : Nat → List Nat → List Nat
  | u1, [] => []
  | p, c :: r => if p = 10 ∧ c = 46 then 46 :: 46 :: f1 c r else c :: f1 c r
theorem getD_toList (T : Array Nat) (p : Nat) : T.getD p 0 = T.toList.getD p 0 := by
  simp [Array.getD, List.getD]
  split <;> simp_all
theorem getD_at (l : List Nat) (p : Nat) (h : p < l.length) : l.getD p 0 = l[p] := by rw [List.getD_eq_getElem?_getD, List.getElem?_eq_getElem h]; rfl
theorem expd2_list (T : Array Nat) : ∀ (n p : Nat), p + n = T.size → expd (hit2 T) [13, 10] T n p = f2 (T.toList.drop p)
  | 0, p, h => by rw [List.drop_of_length_le (by simp; omega)]; rfl
  | n + 1, p, h => by
    have hp : p < T.toList.length := by simp; omega
    rw [expd, List.drop_eq_getElem_cons hp, f2, expd2_list T n (p + 1) (by omega)]
    have e : T.getD p 0 = T.toList[p] := by rw [getD_toList]; exact getD_at _ _ hp
    rw [hit2, e]
    by_cases q : T.toList[p] = 10
    · rw [if_pos (by rw [q]; rfl), if_pos q]; rfl
    · rw [if_neg (by simpa using q), if_neg q]; rfl
theorem expd1_list (T : Array Nat) : ∀ (n p : Nat), p + n = T.size → expd (hit1 T) [46, 46] T n p = f1 (if p = 0 then 10 else T.toList.getD (p - 1) 0) (T.toList.drop p)
  | 0, p, h => by rw [List.drop_of_length_le (by simp; omega)]; rfl
  | n + 1, p, h => by
    have hp : p < T.toList.length := by simp; omega
    rw [expd, List.drop_eq_getElem_cons hp, f1, expd1_list T n (p + 1) (by omega)]
    have e : T.getD p 0 = T.toList[p] := by rw [getD_toList]; exact getD_at _ _ hp
    have e3 : (if p + 1 = 0 then 10 else T.toList.getD (p + 1 - 1) 0) = T.toList[p] := by
      rw [if_neg (by omega), Nat.add_sub_cancel]; exact getD_at _ _ hp
    rw [e3, hit1, e]
    have e2 : (p == 0 || T.getD (p - 1) 0 == 10) = decide ((if p = 0 then 10 else T.toList.getD (p - 1) 0) = 10) := by
      rw [getD_toList, Bool.eq_iff_iff]
      by_cases h0 : p = 0
      · simp [h0]
      · simp [h0]
    rw [e2]
    by_cases q : (if p = 0 then 10 else T.toList.getD (p - 1) 0) = 10 ∧ T.toList[p] = 46
    · rw [if_pos (by rw [decide_eq_true q.1, q.2]; rfl), if_pos q]; rfl
    · rw [if_neg (by rw [Bool.and_eq_true, decide_eq_true_eq, beq_iff_eq]; exact q), if_neg q]; rfl
theorem sub_lists (x : Str) : (sub1 (sub2 x)).cps.toList = f1 10 (f2 x.cps.toList) := by
  have h2 : (sub2 x).cps.toList = f2 x.cps.toList := by
    show (expd _ _ _ _ _).toArray.toList = _
    rw [List.toList_toArray, expd2_list _ _ 0 (by omega), List.drop_zero]
  show (expd _ _ _ _ _).toArray.toList = _
  rw [List.toList_toArray, expd1_list _ _ 0 (by omega), List.drop_zero, if_pos rfl, h2]
theorem app_list (x y : Str) : (x ++ y).cps.toList = x.cps.toList ++ y.cps.toList := by
  show (x.cps ++ y.cps).toList = _
  simp
theorem std_list : ∀ a, a < 4 → ∀ b, b < 10 → ∀ k, k < 9 → ∀ e, e < 2 → (stdF (sel4 a) ((b : Nat) * 5) (nameN k e)).cps.toList = stdL a b k e := by decide +kernel
theorem code_list : ∀ g, g < 4 → (match codeD g with | .str y => ("." : Str).cps.toList ++ y.cps.toList | _ => []) = codeL g := by decide +kernel
theorem written_list (a b k e g : Nat) (ha : a < 4) (hb : b < 10) (hk : k < 9) (he : e < 2) (hg : g < 4) : (writtenN a b k e g).cps.toList = wl a b k e g := by
  have h1 := std_list a ha b hb k hk e he
  have h2 := code_list g hg
  have h3 : ("\n" : Str).cps.toList = [10] := by decide +kernel
  unfold writtenN wl
  rw [app_list, h3]
  congr 1
  rw [← h2, ← h1]
  unfold buildF
  rcases codeD_cases g hg with h | ⟨y, h, _⟩ <;> rw [h]
  · simp
  · show (_ ++ _ ++ _ : Str).cps.toList = _
    rw [app_list, app_list, List.append_assoc]
theorem head_list : ∀ a, a < 4 → ∀ b, b < 10 → ∀ k, k < 9 → ∀ e, e < 2 → (headN a b k e).cps.toList = hdL a b k e := by decide +kernel
theorem tail_list : ∀ g, g < 4 → (tailS g).cps.toList = tlL g := by decide +kernel
theorem str_empty (x : Str) : (x == ("" : Str)) = x.cps.toList.isEmpty := by
  have h : ("" : Str) = ⟨#[]⟩ := by decide +kernel
  rw [h, ← toList_beq]
  cases x.cps.toList <;> rfl
theorem sent_list (a b k e g : Nat) (ha : a < 4) (hb : b < 10) (hk : k < 9) (he : e < 2) (hg : g < 4) : (sentN a b k e g).cps.toList = sl a b k e g := by
  have h1 := head_list a ha b hb k hk e he
  have h2 := tail_list g hg
  have h3 : ("\r\n" : Str).cps.toList = [13, 10] := by decide +kernel
  have h4 : ("." : Str).cps.toList = [46] := by decide +kernel
  unfold sentN sl
  rw [app_list, app_list, h3, h1]
  congr 2
  unfold tailN
  rw [bne, str_empty, str_empty, h1, h2]
  split
  · rw [app_list, h4, h2]; rfl
  · rw [h2]
theorem lists_eq : ∀ a, a < 4 → ∀ b, b < 10 → ∀ k, k < 9 → ∀ e, e < 2 → ∀ g, g < 4 → f1 10 (f2 (wl a b k e g)) = sl a b k e g := by decide +kernel
theorem wl_ok : ∀ a, a < 4 → ∀ b, b < 10 → ∀ k, k < 9 → ∀ e, e < 2 → ∀ g, g < 4 → ((wl a b k e g).all (fun c => c != 13 && decide (c < 1114112)) && decide ((wl a b k e g).length ≤ 100)) = true := by decide +kernel
end Mine
end
section
open PySem PySem.W PySem.Calls PyProof.Rows
set_option linter.unusedVariables false
set_option maxRecDepth 100000
namespace Mine
set_option genSizeOf false
set_option genInjectivity false
set_option tactic.hygienic false
noncomputable def writF (x : Int) : Str := writtenN (x % 4).toNat (x / 4 % 10).toNat (x / 40 % 9).toNat (x / 360 % 2).toNat (x / 720 % 4).toNat
noncomputable def textF (x : Int) : Str := sentN (x % 4).toNat (x / 4 % 10).toNat (x / 40 % 9).toNat (x / 360 % 2).toNat (x / 720 % 4).toNat
theorem rsF (x : Int) : Rs x (x % 4).toNat (x / 4 % 10).toNat (x / 40 % 9).toNat (x / 360 % 2).toNat (x / 720 % 4).toNat := by constructor <;> omega
theorem str_ext {x y : Str} (h : x.cps.toList = y.cps.toList) : x = y := by
  cases x; cases y
  exact congrArg Str.mk (Array.toList_inj.mp h)
theorem quote_writF (x : Int) : sub1 (sub2 (writF x)) = textF x := by
  have R := rsF x
  apply str_ext
  rw [sub_lists]
  unfold writF textF
  rw [written_list _ _ _ _ _ R.la R.lb R.lk R.le R.lg, sent_list _ _ _ _ _ R.la R.lb R.lk R.le R.lg]
  exact lists_eq _ R.la _ R.lb _ R.lk _ R.le _ R.lg
theorem writF_list (x : Int) : ∃ l, (writF x).cps.toList = l ++ [10] ∧ (l ++ [10]).length ≤ 100 ∧ ∀ c ∈ l ++ [10], c ≠ 13 := by
  have R := rsF x
  have h := wl_ok _ R.la _ R.lb _ R.lk _ R.le _ R.lg
  rw [Bool.and_eq_true, decide_eq_true_eq, List.all_eq_true] at h
  refine ⟨_, written_list _ _ _ _ _ R.la R.lb R.lk R.le R.lg, h.2, fun c hc => ?_⟩
  have := h.1 c hc
  simp at this
  exact this.1
theorem writF_ok (x : Int) : 0 < (writF x).cps.size ∧ (writF x).cps.size ≤ 100 ∧ ∀ q, q < (writF x).cps.size → (writF x).cps.getD q 0 ≠ 13 := by
  obtain ⟨l, h1, h2, h3⟩ := writF_list x
  have hs : (writF x).cps.size = (l ++ [10]).length := by rw [← h1, Array.length_toList]
  refine ⟨by rw [hs]; simp, by rw [hs]; exact h2, fun q hq => ?_⟩
  rw [getD_toList, h1]
  rw [hs] at hq
  rw [getD_at _ _ hq]
  exact h3 _ (List.getElem_mem hq)
theorem f1_len : ∀ (l : List Nat) (p : Nat), (f1 p l).length ≤ 2 * l.length
  | [], u1 => Nat.zero_le _
  | c :: r, p => by
    have := f1_len r c
    unfold f1
    split <;> simp only [List.length_cons] <;> omega
theorem f2_len : ∀ (l : List Nat), (f2 l).length ≤ 2 * l.length
  | [] => Nat.zero_le _
  | c :: r => by
    have := f2_len r
    unfold f2
    split <;> simp only [List.length_cons] <;> omega
theorem f1_all (P : Nat → Prop) (h46 : P 46) : ∀ (l : List Nat) (p : Nat), (∀ c ∈ l, P c) → ∀ c ∈ f1 p l, P c
  | [], u1, u2, c, hc => by cases hc
  | a :: r, p, h, c, hc => by
    have ih := f1_all P h46 r a (fun c hc => h c (List.mem_cons_of_mem _ hc)) c
    unfold f1 at hc
    split at hc
    · simp only [List.mem_cons] at hc
      rcases hc with rfl | rfl | hc
      · exact h46
      · exact h46
      · exact ih hc
    · simp only [List.mem_cons] at hc
      rcases hc with rfl | hc
      · exact h _ (List.mem_cons_self)
      · exact ih hc
theorem f2_all (P : Nat → Prop) (h13 : P 13) (h10 : P 10) : ∀ (l : List Nat), (∀ c ∈ l, P c) → ∀ c ∈ f2 l, P c
  | [], u1, c, hc => by cases hc
  | a :: r, h, c, hc => by
    have ih := f2_all P h13 h10 r (fun c hc => h c (List.mem_cons_of_mem _ hc)) c
    unfold f2 at hc
    split at hc
    · simp only [List.mem_cons] at hc
      rcases hc with rfl | rfl | hc
      · exact h13
      · exact h10
      · exact ih hc
    · simp only [List.mem_cons] at hc
      rcases hc with rfl | hc
      · exact h _ (List.mem_cons_self)
      · exact ih hc
theorem textF_list (x : Int) : (textF x).cps.toList = f1 10 (f2 (writF x).cps.toList) := by rw [← quote_writF, sub_lists]
theorem textF_len (x : Int) : (textF x).length ≤ 400 := by
  obtain ⟨l, h1, h2, _⟩ := writF_list x
  show (textF x).cps.size ≤ 400
  rw [← Array.length_toList, textF_list, h1]
  have := f1_len (f2 (l ++ [10])) 10
  have := f2_len (l ++ [10])
  omega
theorem textF_ok (x : Int) : PyData.strOk (textF x) = true := by
  have R := rsF x
  have h := wl_ok _ R.la _ R.lb _ R.lk _ R.le _ R.lg
  rw [Bool.and_eq_true, List.all_eq_true] at h
  have hw : ∀ c ∈ (writF x).cps.toList, c < 1114112 := fun c hc => by
    unfold writF at hc
    rw [written_list _ _ _ _ _ R.la R.lb R.lk R.le R.lg] at hc
    have := h.1 c hc
    simp at this
    exact this.2
  have ht : ∀ c ∈ (textF x).cps.toList, c < 1114112 := by
    rw [textF_list]
    exact f1_all _ (by decide) _ _ (f2_all _ (by decide) (by decide) _ hw)
  unfold PyData.strOk
  rw [← Array.all_toList, List.all_eq_true]
  exact fun c hc => decide_eq_true (ht c hc)
theorem written_fn' {c : Cx} (O : c.Ok) (x : Int) (hx : 0 ≤ x) : Fn c 5 (.ref 215) [.int x] (.str (writF x)) := written_fn O x hx (rsF x)
theorem sent_fn' {c : Cx} (O : c.Ok) (x : Int) (hx : 0 ≤ x) : Fn c 5 (.ref 222) [.int x] (.str (textF x)) := sent_fn O x hx (rsF x)
theorem quote_fn' {c : Cx} (O : c.Ok2) (x : Int) : Fn c 10 (.ref 201) [.str (writF x)] (.str (textF x)) := by
  obtain ⟨h1, h2, h3⟩ := writF_ok x
  rw [← quote_writF]
  exact quote_fn O (writF x) h1 h2 h3
end Mine
end
section
open PySem PySem.W PySem.Calls PyProof.Rows
set_option linter.unusedVariables false
set_option maxRecDepth 100000
namespace Mine
set_option genSizeOf false
set_option genInjectivity false
set_option tactic.hygienic false
structure CompOk (env : Env) (scope : Scope) (cl : List (Str × Addr)) : Prop where
  clos : closureFor scope env = pure cl
  cell : ∀ y ∈ scope.names, y.2 ≠ .cell
  kind : scope.kind = .function
  names : ∀ y ∈ scope.names, y.2 = .local → scope.names.lookup y.1 = some .local
  clAt : ∀ p ∈ cl, env.cells.lookup p.1 = some p.2 ∧ env.kindOf p.1 = some .cell
  has : ((relabel scope env).names.all fun p => !(p.2 == .cell) || (cl.lookup p.1).isSome) = true
  apart : cl.Pairwise fun x y => x.2 ≠ y.2
theorem CompOk.has' {env : Env} {scope : Scope} {cl : List (Str × Addr)} (K : CompOk env scope cl) {C : Addr} {x : Str} (h : (compEnvC scope cl C env).kindOf x = some .cell) : (cl.lookup x).isSome = true := by
  have := List.all_eq_true.mp K.has (x, .cell) (mem_of_lookup h)
  simpa using this

section
variable {c : Cx} {n : Nat} {env : Env} {X X₀ own Z : Addr → Prop} {hA : Heap} {os : OsState} {s s' s₀ : Shared} {σ σc : List (Str × LV)} {d : D} {ds : List D} {pos : Pos} {rest body : List Stmt} {Q : Flow → Shared → Prop}
theorem fresh_not {a : Addr} (B : Bd c env X₀ own Z hA os s₀ σ) (hf : s₀.heap.get? a = none) : ¬ (X₀ a ∨ own a) := fun q => by
  have := B.ex a q
  rw [hf] at this; cases this
theorem comp_bd {scope : Scope} {cl : List (Str × Addr)} {C acc : Addr} {I : Addr → Prop} {m : Str → Option Value} (K : CompOk env scope cl) (B : Bd c env X₀ own Z hA os s₀ σ) (e : Ext s₀ s) (Iv : Inv c s)
    (hC : s₀.heap.get? C = none) (hacc : s₀.heap.get? acc = none) (hI : ∀ a, I a → s₀.heap.get? a = none) (cI : ¬ I C) (aI : ¬ I acc) (farC : @LT.lt Nat _ 256 C) (farA : @LT.lt Nat _ 256 acc)
    (exI : ∀ a, I a → (s.heap.get? a).isSome = true) (exA : (s.heap.get? acc).isSome = true) (hn : s.heap.Ns C m) (hσ : ∀ p ∈ σc, σ.lookup p.1 = some p.2 ∧ (compEnvC scope cl C env).kindOf p.1 = some .cell) :
    Bd c (compEnvC scope cl C env) (fun a => X₀ a ∨ I a) (fun a => own a ∨ a = C ∨ a = acc) (fun uu => True) s.heap os s σc where
  inv := Iv
  os := (B.ext e Iv).os
  chg := fun uu uu uu => .inl trivial
  mine := fun uu uu => .inl trivial
  ex := fun a h => by
    rcases h with (h | h) | h | h | h
    · exact e.keep.there (B.ex a (.inl h))
    · exact exI a h
    · exact e.keep.there (B.ex a (.inr h))
    · subst h; obtain ⟨o, _, _, ho, _⟩ := hn; rw [ho]; rfl
    · subst h; exact exA
  far := fun a h => by
    rcases h with h | h | h
    · exact B.far a h
    · exact h ▸ farC
    · exact h ▸ farA
  dis := fun a h q => by
    rcases h with h | h | h
    · rcases q with q | q
      · exact B.dis a h q
      · exact fresh_not B (hI a q) (.inr h)
    · subst h
      rcases q with q | q
      · exact fresh_not B hC (.inl q)
      · exact cI q
    · subst h
      rcases q with q | q
      · exact fresh_not B hacc (.inl q)
      · exact aI q
  ownL := .inr (.inl rfl)
  ownC := fun x a hx => .inl (B.ownC x a (mem_of_lookup (K.clAt (x, a) hx).1))
  dcs := fun x lv a q hm => by
    obtain ⟨h1, _⟩ := hσ (x, lv) (mem_of_lookup q)
    obtain ⟨vm0, F0, g0⟩ := B.loc
    obtain ⟨v, _, ok⟩ := g0 x _ h1
    have ha : own a := by
      cases lv with
      | tr d => exact nomatch hm
      | va u => exact nomatch hm
      | ls b ds => have hm : a = b := mem1 hm
                   exact hm ▸ ok.2.1
      | dc b es => have hm : a = b := mem1 hm
                   exact hm ▸ ok.2.1
      | ac b dx ds i0 =>
        have hm : a = b ∨ a = dx := mem2 hm
        rcases hm with rfl | rfl
        · exact ok.2.1
        · exact ok.2.2.1
    refine ⟨fun z => ?_, fun y b hb => (B.dcs x lv a h1 hm).2 y b (mem_of_lookup (K.clAt (y, b) hb).1)⟩
    have z : a = C := z
    subst z
    exact fresh_not B hC (.inr ha)
  loc := by
    obtain ⟨vm, F, g⟩ := (B.ext e Iv).loc
    obtain ⟨vm0, F0, g0⟩ := B.loc
    have cellEx : ∀ x a, (x, a) ∈ cl → a ≠ C := fun x a hx q => by
      subst q
      exact fresh_not B hC (.inr (B.ownC x a (mem_of_lookup (K.clAt (x, a) hx).1)))
    refine ⟨fun x => if (compEnvC scope cl C env).kindOf x = some .local then m x else vm x, ⟨⟨m, hn, fun x hx => by rw [if_pos hx]⟩, fun x a hx hl => ?_, K.apart, fun x a hx => Ne.symm (cellEx x a hx), fun x hx => K.has' hx⟩, fun x lv q => ?_⟩
    · have := K.clAt (x, a) (mem_of_lookup hl)
      rw [if_neg (by rw [hx]; intro z; cases z)]
      exact F.cell x a this.2 this.1
    · obtain ⟨h1, h2⟩ := hσ (x, lv) (mem_of_lookup q)
      obtain ⟨v, p1, p2⟩ := g x lv h1
      have h2 : (compEnvC scope cl C env).kindOf x = some .cell := h2
      refine ⟨v, by show (if (compEnvC scope cl C env).kindOf x = some .local then m x else vm x) = some v; rw [if_neg (by rw [h2]; intro z; cases z)]; exact p1, ?_⟩
      obtain ⟨v0, p3, p4⟩ := g0 x lv h1
      have kc : env.kindOf x = some .cell := by
        have := K.has' h2
        obtain ⟨a, ha⟩ := Option.isSome_iff_exists.mp this
        exact (K.clAt (x, a) (mem_of_lookup ha)).2
      have ev : v0 = v := by
        obtain ⟨a, ha⟩ := Option.isSome_iff_exists.mp (F0.has x kc)
        have c0 := F0.cell x a kc ha
        have c1 := F.cell x a kc ha
        obtain ⟨o0, ho0, hd0⟩ := c0
        obtain ⟨o1, ho1, hd1⟩ := c1
        rcases e.keep a o0 ho0 with z | ⟨_, ps, more, rfl, _⟩
        · rw [ho1] at z; cases z
          rw [hd0] at hd1
          have := Data.cell.inj hd1
          rw [p3, p1] at this
          exact Option.some.inj this
        · cases hd0
      subst ev
      refine LV.ok.mv (own' := fun a => own a ∨ a = C ∨ a = acc) ⟨fun a o uu e' hc => e.keep.get e' hc, fun a na sa z => ?_⟩ (fun a o uu uu q1 q2 => e.keep.get q1 q2) (fun uu z => .inl z) p4
      have nn : s₀.heap.get? a ≠ none := fun q => by rw [q] at sa; cases sa
      rcases z with (z | z) | z | z | z
      · exact na (.inl z)
      · exact nn (hI a z)
      · exact na (.inr z)
      · exact nn (z ▸ hC)
      · exact nn (z ▸ hacc)
end
end Mine
end
section
open PySem PySem.W PySem.Calls PyProof.Rows
set_option linter.unusedVariables false
set_option maxRecDepth 100000
namespace Mine
set_option genSizeOf false
set_option genInjectivity false
set_option tactic.hygienic false
section
variable {c : Cx} {n : Nat} {env : Env} {X X₀ own Z : Addr → Prop} {hA : Heap} {os : OsState} {s s' s₀ : Shared} {σ σc : List (Str × LV)} {d : D} {ds : List D} {pos : Pos} {rest body : List Stmt} {Q : Flow → Shared → Prop}
theorem st_name2 {M : Model} {A : Around} {E : Value → Shared → Prop} {x : Str} {v : Value} {lv : LV} {Q : Unit → Shared → Prop} (B : Bd c env X₀ own Z hA os s σ) (hk : env.scope.kind = .function) (hx : env.kindOf x = some .local)
    (hv : lv.ok s.heap (fun a => X₀ a ∨ own a) own v) (h : ∀ h' m', Heap.SameBut env.locals s.heap h' → h'.Ns env.locals m' → Bd c env X₀ own Z hA os { s with heap := h', toks := s.toks + 1 } ((x, lv) :: σ) → Q () { s with heap := h', toks := s.toks + 1 }) (hd : autoParam (∀ a ∈ lv.addrs, a ≠ env.locals ∧ ∀ y c, (y, c) ∈ env.cells → a ≠ c) tacN) : wpAny M A (storeName env x v) Q E s := by
  have hdc : ∀ y l' b, ((x, lv) :: σ).lookup y = some l' → b ∈ l'.addrs → b ≠ env.locals ∧ ∀ y c, (y, c) ∈ env.cells → b ≠ c := fun y l' b q hb => by
    rcases lookup_cons_or q with ⟨_, e⟩ | ⟨_, q⟩
    · subst e; exact hd b hb
    · exact B.dcs y l' b q hb
  obtain ⟨vm, F, hl⟩ := B.loc
  have key : ∀ (y : Str) (l' : LV), ((x, lv) :: σ).lookup y = some l' → ∃ u, (if y = x then some v else vm y) = some u ∧ l'.ok s.heap (fun a => X₀ a ∨ own a) own u := fun y l' q => by
    rcases lookup_cons_or q with ⟨rfl, rfl⟩ | ⟨ne, q⟩
    · exact ⟨v, by simp, hv⟩
    · obtain ⟨u, a, b⟩ := hl y l' q
      exact ⟨u, by rw [if_neg ne]; exact a, b⟩
  obtain ⟨m, hm, hmv⟩ := F.ns
  refine wpAny_storeName_local hx hm (fun h' hn hs => h h' _ hs hn ?_) (by rw [hk]; rfl)
  refine B.moved (vm' := fun y => if y = x then some v else vm y) B.ownL hs (by obtain ⟨o, _, _, ho, _⟩ := hn; rw [ho]; rfl) (fun y l' b q1 q2 => (hdc y l' b q1 q2).1) hdc (F.store_local hx (fun m' hm' => ?_) hs) key
  have : m' = m := by
    obtain ⟨o, es, ep, h1, h2, _, h4⟩ := hm'
    obtain ⟨o', es', ep', h1', h2', _, h4'⟩ := hm
    rw [h1] at h1'; cases h1'
    rw [h2] at h2'; cases h2'
    funext y; rw [← h4 y, ← h4' y]
  rw [this]; exact hn
noncomputable def Asg2 (env : Env) (target : Expr) (d : D) (δ : List (Str × LV)) : Prop :=
  ∀ (c : Cx) (n : Nat) (X₀ own Z : Addr → Prop) (hA : Heap) (os : OsState) (s : Shared) (σ : List (Str × LV)) (v : Value) (Q : Unit → Shared → Prop),
    Bd c env X₀ own Z hA os s σ → Tr s.heap (fun a => X₀ a ∨ own a) d v → (∀ s', Bd c env X₀ own Z hA os s' (δ ++ σ) → Kp (fun a => a = env.locals) s.heap s'.heap → s'.gens = s.gens → Q () s') → W c n (assign target env v) Q s
theorem asg2_name {env : Env} {x : Str} {pos : Pos} {d : D} (hk : env.scope.kind = .function) (hx : env.kindOf x = some .local) : Asg2 env (.Name x pos) d [(x, .tr d)] :=
  fun c n X₀ own Z hA os s σ v Q B t h => wpAny_assign_Name (st_name2 (lv := .tr d) B hk hx t fun h' m' hs hn B' => h _ B' (.same hs rfl) rfl)
theorem asg2_order {env : Env} (hk : env.scope.kind = .function) (c : Cx) (n : Nat) (X₀ own Z : Addr → Prop) (hA : Heap) (os : OsState) (Q : Unit → Shared → Prop) (h₀ : Heap) (g₀ : Array GenState) : ∀ {es : List Expr} {xs : List Str} {ds : List D} (s : Shared) (σ : List (Str × LV)) (vs : List Value),
    namesOf es = some xs → xs.length = ds.length → (xs.all fun x => env.kindOf x == some .local) = true → Bd c env X₀ own Z hA os s σ → TrL s.heap (fun a => X₀ a ∨ own a) ds vs → Kp (fun a => a = env.locals) h₀ s.heap → s.gens = g₀ →
    (∀ s', Bd c env X₀ own Z hA os s' ((xs.zip (ds.map LV.tr)).reverse ++ σ) → Kp (fun a => a = env.locals) h₀ s'.heap → s'.gens = g₀ → Q () s') → W c n (assignInOrder ((assignEach es env).map (·.2)) vs) Q s
  | [], xs, ds, s, σ, vs, h, hl, hx, B, t, kp, hg, k => by
    cases h
    cases ds with
    | cons _ _ => cases hl
    | nil =>
      have : vs = [] := t
      subst this
      exact wpAny_assignInOrder_none (k s B kp hg)
  | e :: r, xs, ds, s, σ, vs, h, hl, hx, B, t, kp, hg, k => by
    obtain ⟨x, p, ys, rfl, hy, rfl⟩ := namesOf_cons h
    cases ds with
    | nil => cases hl
    | cons d ds =>
      obtain ⟨v, us, rfl, t1, t2⟩ := t
      have hx' := (Bool.and_eq_true_iff.mp (List.all_cons ▸ hx))
      have e : assignEach (.Name x p :: r) env = (false, assign (.Name x p) env) :: assignEach r env := rfl
      rw [e, List.map_cons]
      refine wpAny_assignInOrder_more (wpAny_assign_Name ?_)
      refine st_name2 (lv := .tr d) B hk (by simpa using hx'.1) t1 fun h' m' hs hn B' => ?_
      refine asg2_order hk c n X₀ own Z hA os Q h₀ g₀ _ ((x, .tr d) :: σ) us hy (by simpa using hl) hx'.2 B' (TrL.mv (.same hs (.inr B.ownL)) ds us t2) (kp.trans (Y := fun a => a = env.locals) (.same hs rfl) fun a h => .inl h) hg fun s'' B'' => k s'' ?_
      simpa [List.map_cons, List.zip_cons_cons, List.reverse_cons, List.append_assoc] using B''
theorem asg2_tuple {env : Env} {es : List Expr} {xs : List Str} {ds : List D} {k : Nat} {pos : Pos} (h : namesOf es = some xs) (hl : xs.length = ds.length) (hx : (xs.all fun x => env.kindOf x == some .local) = true) (hk : env.scope.kind = .function) :
    Asg2 env (.Tuple es k pos) (.tup ds) ((xs.zip (ds.map LV.tr)).reverse) := fun c n X₀ own Z hA os s σ v Q B t hq => by
  obtain ⟨a, vs, rfl, na, ht, tl⟩ := t
  obtain ⟨e1, e2⟩ := assignEach_names (env := env) h
  refine assign_Tuple_tuple (A := AL n) rfl ht.is (by rw [e1, hl, ← tl.length, Array.length_toList]) e2 fun h' he => ?_
  have E := ext_full (s := s) (t := s.toks) he
  exact asg2_order hk c n X₀ own Z hA os Q s.heap s.gens _ σ _ h hl hx (B.ext E (B.inv.keep E.keep B.inv.bare)) (tl.ext E) (.of E.keep) rfl hq

noncomputable def EvC (c : Cx) (n : Nat) (X : Addr → Prop) (s₀ : Shared) (iter : Sem Value) (ds : List D) : Prop :=
  ∀ s, Ext s₀ s → Inv c s → W c n iter (fun x s1 => W c n (pyIter x) (fun itv s2 => Ez c s s2 (∃ it I J, itv = .ref it ∧ (∀ a, I a → s.heap.get? a = none ∧ (s2.heap.get? a).isSome = true) ∧ IterOk c n it I J ∧ J (fun a => X a ∨ I a) ds s2 ∧
    ∀ X r s (Q : Value → Shared → Prop), J X r s → Q (.ref it) s → W c n (pyIter (.ref it)) Q s)) s1) s
theorem EvC.toI {X : Addr → Prop} {iter : Sem Value} (h : EvC c n X s₀ iter ds) : EvI c n X s₀ iter ds := fun s e I => wpAny_mono (h s e I) (fun x s1 h1 => wpAny_mono h1 (fun itv s2 zr => by obtain ⟨e2, I2, it, I, J, h3, h4, h5, h6, _⟩ := zr; exact ⟨e2, I2, it, I, J, h3, fun a h => ⟨ext_none e (h4 a h).1, (h4 a h).2⟩, h5, h6⟩) fun uu uu z => z) fun uu uu z => z
theorem ec_list {X : Addr → Prop} {iter : Sem Value} (h : EvD c n X s₀ iter (.lst ds)) : EvC c n X s₀ iter ds := fun s e I => by
  refine wz (h s e I) (fun x s1 e1 I1 t => ?_)
  obtain ⟨a, vs, rfl, na, hl, t⟩ := t
  refine wpAny_pyIter_list hl.is ?_
  have E : Ext s1 { s1 with heap := s1.heap.push { cls := .type "list_iterator", data := .fields #[.ref a, .int 0 0] } } := ⟨Keep.push _ _, rfl⟩
  refine ⟨e1.trans E, I1.keep E.keep I1.bare, s1.heap.objs.size, fun b => b = s1.heap.objs.size, JList s1.heap.objs.size a, rfl, fun b hb => ⟨?_, ?_⟩, iter_list I1.size, ⟨0, vs, ?_, ?_, ?_, ?_⟩, fun X r s Q zp hq => by obtain ⟨i, vs, _, hit, _⟩ := zp; exact wpAny_pyIter_listiter hit hq⟩
  · subst hb
    exact ext_none e1 (size_none _)
  · subst hb
    rw [show _ = some _ from Heap.get?_push_size _ rfl]; rfl
  · rintro (q | q)
    · exact na q
    · subst q
      obtain ⟨o, ho⟩ := hl
      exact absurd (Heap.lt_size ho) (Nat.lt_irrefl _)
  · exact ⟨_, Heap.get?_push_size _ rfl, rfl, rfl⟩
  · exact list_obj hl fun o e hc => E.keep.get e hc
  · rw [List.drop_zero]
    refine TrL.mv ⟨fun b o uu e hc => E.keep.get e hc, fun b nb sb q => ?_⟩ _ _ t
    rcases q with q | q
    · exact nb q
    · subst q
      obtain ⟨o', ho'⟩ := Option.isSome_iff_exists.mp sb
      exact absurd (Heap.lt_size ho') (Nat.lt_irrefl _)
end
end Mine
end
section
open PySem PySem.W PySem.Calls PyProof.Rows
set_option linter.unusedVariables false
set_option maxRecDepth 100000
namespace Mine
set_option genSizeOf false
set_option genInjectivity false
set_option tactic.hygienic false
section
variable {c : Cx} {n : Nat} {env : Env} {X X₀ own Z : Addr → Prop} {hA : Heap} {os : OsState} {s s' s₀ : Shared} {σ σc : List (Str × LV)} {d : D} {ds : List D} {pos : Pos} {rest body : List Stmt} {Q : Flow → Shared → Prop}
theorem ev_tcall {x : Str} {p : Pos} {args : List Expr} {T : String} {RA : Shared → List Value → Prop} {R : Shared → Value → Prop} (hf : EvV c n s (eval (.Name x p) env) (.type T))
    (ha : Ev c n s (spliced (args.map fun e => (false, eval e env))) RA) (hc : ∀ vs s1, Ext s s1 → Inv c s1 → RA s1 vs → Ev c n s1 (call (.type T) vs) R) (hns : autoParam (noStar args = true) tacR) : Ev c n s (eval (.Call (.Name x p) args [] pos) env) R := fun s' e I => by
  refine Call_Name (starEach_plain hns) (wz (hf s' e I) (fun u s1 e1 I1 hu => ?_))
  subst hu
  refine PyProof.Rows.callWith_type EvEs.any (evalArgs_any EvEs.any (wz (ha s1 (e.trans e1) I1) (fun vs s2 e2 I2 r => ?_)))
  exact wz (hc vs s2 ((e.trans e1).trans e2) I2 r s2 (.refl _) I2) (fun v s3 e3 I3 r3 => ⟨(e1.trans e2).trans e3, I3, r3⟩)
theorem blt_name {x : Str} {v : Value} {p : Pos} (O : c.Ok) (hx : x ∈ (["len", "range", "sum", "sorted", "zip", "isinstance", "tuple", "str", "TypeError", "ValueError", "list", "super"] : List Str)) (hb : bootBuiltins x = some v) (hne : autoParam (x ≠ "__name__") tacD) (hk : autoParam (env.scope.kind = .function) tacR) (hxx : autoParam (env.kindOf x = some .globalImplicit) tacR) (hgl : autoParam (env.globals = mainGlobals) tacR) (hbl : autoParam (env.builtins = builtinsNs) tacR) (hd : autoParam ((x == ("__debug__" : Str)) = false) tacD) : EvV c n s (eval (.Name x p) env) v := fun s' e I =>
  (ev_builtin (s := s') O (O.no x hx) hb hne hk hxx hgl hbl hd) s' (.refl _) I
theorem boot_range : bootBuiltins ("range" : Str) = some (.type "range") := by kernel_rfl
theorem boot_sum : bootBuiltins ("sum" : Str) = some (.builtin "sum") := by kernel_rfl
theorem boot_zip : bootBuiltins ("zip" : Str) = some (.type "zip") := by kernel_rfl
theorem boot_tuple : bootBuiltins ("tuple" : Str) = some (.type "tuple") := by kernel_rfl
theorem boot_str : bootBuiltins ("str" : Str) = some (.type "str") := by kernel_rfl
theorem boot_isinstance : bootBuiltins ("isinstance" : Str) = some (.builtin "isinstance") := by kernel_rfl

noncomputable def RangeV (a b : Int) (s : Shared) (v : Value) : Prop := ∃ r t u w, v = .ref r ∧ IsRange s.heap r a b 1 t u w
noncomputable def rangeL (a b : Int) : List D := (List.range (b - a).toNat).map fun i : Nat => D.int (a + i)
theorem fits_long (a : Int) (h1 : -4000000000000 < a) (h2 : a < 4000000000000) : Builtin.Range.rangeFitsLong a = true := by
  have p2 : (2 : Int) ^ 63 = 9223372036854775808 := by decide
  unfold Builtin.Range.rangeFitsLong
  rw [p2, Bool.and_eq_true]
  exact ⟨decide_eq_true (by omega), decide_eq_true (by omega)⟩
theorem ec_range_of {a b : Int} {iter : Sem Value} (h : Ev c n s₀ iter (RangeV a b)) (ha : -(2 ^ 40) < a) (ha' : a < 2 ^ 40) (hb : -(2 ^ 40) < b) (hb' : b < 2 ^ 40) : EvC c n X s₀ iter (rangeL a b) := fun s e I => by
  refine wz (h s e I) (fun x s1 e1 I1 zr => ?_)
  obtain ⟨r, t, u, w, ev, hr⟩ := zr
  subst ev
  have hsz : Builtin.Range.rangeSize a b 1 = if a < b then b - a else 0 := rangeSize_one a b
  refine wpAny_pyIter_range hr ?_ ?_
  · have p1 : (2 : Int) ^ 40 = 1099511627776 := by decide
    rw [p1] at ha ha' hb hb'
    have hz : -1 < Builtin.Range.rangeSize a b 1 ∧ Builtin.Range.rangeSize a b 1 < 4000000000000 := by rw [hsz]; split <;> omega
    unfold Builtin.Range.small
    rw [fits_long a (by omega) (by omega), fits_long b (by omega) (by omega), fits_long 1 (by omega) (by omega), fits_long (Builtin.Range.rangeSize a b 1) (by omega) (by omega), if_pos (by decide), fits_long (b + (1 - 1)) (by omega) (by omega)]
    simp
  have E := ext_push s1 { cls := .type "range_iterator", data := .fields #[rawInt a, rawInt (Builtin.Range.rangeSize a b 1), rawInt 1] }
  refine ⟨e1.trans E, I1.keep E.keep I1.bare, s1.heap.objs.size, fun b => b = s1.heap.objs.size, JRange s1.heap.objs.size, rfl, fun b hb => ⟨?_, ?_⟩, iter_range I1.size, ⟨a, Builtin.Range.rangeSize a b 1, ?_, ?_⟩, fun X r s Q zp hq => by obtain ⟨a, k, hit, _⟩ := zp; exact wpAny_pyIter_rangeiter hit hq⟩
  · subst hb
    exact ext_none e1 (size_none _)
  · subst hb
    rw [show _ = some _ from Heap.get?_push_size _ rfl]; rfl
  · exact Heap.get?_push_size _ rfl
  · have : (Builtin.Range.rangeSize a b 1).toNat = (b - a).toNat := by rw [hsz]; split <;> omega
    rw [this]; rfl
theorem ev_range1 {p : Pos} {e : Expr} {b : Int} (O : c.Ok) (h : EvD c n X s (eval e env) (.int b)) (hns : autoParam (noStar [e] = true) tacR) (hk : autoParam (env.scope.kind = .function) tacR) (hxx : autoParam (env.kindOf "range" = some .globalImplicit) tacR) (hgl : autoParam (env.globals = mainGlobals) tacR) (hbl : autoParam (env.builtins = builtinsNs) tacR) : Ev c n s (eval (.Call (.Name "range" p) [e] [] pos) env) (RangeV 0 b) := by
  refine ev_tcall (T := "range") (blt_name O (inF 1 rfl) boot_range (by decide) hk hxx hgl hbl) (EvEs.evl (.cons h .nil)) (fun vs s1 e1 I1 zp => ?_) hns
  obtain ⟨v, r, ev, ⟨t, hv⟩, er⟩ := zp
  have er : r = [] := er
  subst er ev hv
  intro s2 e2 I2
  have E := ext_push s2 { cls := .type "range", data := .fields #[.int 0 s2.toks, .int b t, .int 1 (s2.toks + 1)] }
  exact call_range_1 ⟨E.trans (.upd _ _), (I2.keep E.keep I2.bare).toks _, _, _, _, _, rfl, IsRange.new ..⟩
theorem ev_range2 {p : Pos} {e1 e2 : Expr} {a b : Int} (O : c.Ok) (h1 : EvD c n X s (eval e1 env) (.int a)) (h2 : EvD c n X s (eval e2 env) (.int b)) (hns : autoParam (noStar [e1, e2] = true) tacR) (hk : autoParam (env.scope.kind = .function) tacR) (hxx : autoParam (env.kindOf "range" = some .globalImplicit) tacR) (hgl : autoParam (env.globals = mainGlobals) tacR) (hbl : autoParam (env.builtins = builtinsNs) tacR) : Ev c n s (eval (.Call (.Name "range" p) [e1, e2] [] pos) env) (RangeV a b) := by
  refine ev_tcall (T := "range") (blt_name O (inF 1 rfl) boot_range (by decide) hk hxx hgl hbl) (EvEs.evl (.cons h1 (.cons h2 .nil))) (fun vs s1 e1 I1 zp => ?_) hns
  obtain ⟨v, r, ev, ⟨t, hv⟩, v2, r2, er, ⟨t2, hv2⟩, er2⟩ := zp
  have er2 : r2 = [] := er2
  subst er2 er ev hv hv2
  intro s2 e2 I2
  have E := ext_push s2 { cls := .type "range", data := .fields #[.int a t, .int b t2, .int 1 s2.toks] }
  exact call_range_2 ⟨E.trans (.upd _ _), (I2.keep E.keep I2.bare).toks _, _, _, _, _, rfl, IsRange.new ..⟩
end
end Mine
end
section
open PySem PySem.W PySem.Calls PyProof.Rows
set_option linter.unusedVariables false
set_option maxRecDepth 100000
namespace Mine
set_option genSizeOf false
set_option genInjectivity false
set_option tactic.hygienic false
noncomputable abbrev testsOf (ifs : List Expr) (env : Env) : Sem Bool := forIn ifs true fun c r => if r = true then do let ok ← isTrue c env (eval c env); pure (ForInStep.yield ok) else pure (ForInStep.yield r)
theorem comp_loop {prog : Program} {w : World} {A : Around} {R : Result → Shared → Prop} {s : Shared} {elt target iter : Expr} {ifs : List Expr} {scope : Scope} {pos : Pos} {it acc : Value} {env : Env} (I : Nat → Shared → Prop)
    (turn : ∀ n s, I n s → wpAny (model prog w) A (pyNext it) (fun r s₁ => match r with
      | none => R (.ok .next) s₁
      | some v => wpAny (model prog w) A (letOwnedTupleGo target it v) (fun uu s₁ => wpAny (model prog w) A (assign target env v) (fun uu s₂ =>
          wpAny (model prog w) A (testsOf ifs env) (fun ok s₃ =>
            if ok = true then wpAny (model prog w) A (eval elt env) (fun x s₄ =>
              wpAny (model prog w) A (call (.builtin "list.append") [acc, x]) (fun _ s₅ => ∃ m, m < n ∧ I m s₅) NoE s₄) NoE s₃
            else ∃ m, m < n ∧ I m s₃) NoE s₂) NoE s₁) NoE s₁) NoE s)
    (n : Nat) (h : I n s) :
    codeAny (model prog w) A (.compLoop (.ListComp elt [⟨target, iter, ifs, 0⟩] scope pos) 0 it acc env) R s := by
  refine codeAny_loop rfl I (fun n s hI => ?_) n h
  show wpAny _ A ((compTurn (.ListComp elt [⟨target, iter, ifs, 0⟩] scope pos) 0 it acc env).onRaise (fun x => do noteFrame x env; theTreesLotGoes x)) _ _ s
  refine wpAny_noted ?_
  rw [compTurn_list]
  refine wpAny_bind (wpAny_standAt (wpAny_bind (wpNoE (wpAny_mono (turn n s hI) (fun r s₁ h₁ => ?_) fun uu uu h' => h'))))
  cases r with
  | none => exact wpAny_pure h₁
  | some v =>
    refine wpAny_bind (wpNoE (wpAny_mono h₁ (fun uu s₁ h₁ => ?_) fun uu uu h' => h'))
    refine wpAny_bind (wpNoE (wpAny_mono h₁ (fun uu s₂ h₂ => wpAny_bind (wpNoE (wpAny_mono h₂ (fun ok s₃ h₃ => ?_) fun uu uu h' => h'))) fun uu uu h' => h'))
    cases ok with
    | false => exact wpAny_pure ⟨rfl, h₃⟩
    | true =>
      exact wpAny_bind (wpAny_bind (wpNoE (wpAny_mono h₃ (fun x s₄ h₄ => wpAny_bind (wpNoE (wpAny_mono h₄ (fun _ s₅ h₅ => wpAny_pure (wpAny_pure ⟨rfl, h₅⟩)) fun uu uu h' => h'))) fun uu uu h' => h')))
section
variable {c : Cx} {n : Nat} {env : Env} {X X₀ own Z : Addr → Prop} {hA : Heap} {os : OsState} {s s' s₀ : Shared} {σ σc : List (Str × LV)} {d : D} {ds : List D} {pos : Pos} {rest body : List Stmt} {Q : Flow → Shared → Prop}
theorem tests_nil : EvB c n s (testsOf [] env) true := fun s' e I => wpAny_pure ⟨.refl _, I, rfl⟩
theorem tests_one {e : Expr} {b : Bool} (h : EvB c n s (isTrue e env (eval e env)) b) : EvB c n s (testsOf [e] env) b := fun s' k I => by
  simp only [testsOf, List.forIn_cons, List.forIn_nil, if_true]
  exact wpAny_bind (wpAny_bind (wpAny_mono (h s' k I) (fun b s' hb => wpAny_pure (wpAny_pure hb)) fun uu uu x => x))
noncomputable def Turn (c : Cx) (n : Nat) (os : OsState) (env' : Env) (target elt : Expr) (ifs : List Expr) (σc : List (Str × LV)) (d : D) (r : Option D) : Prop :=
  ∃ δ, Asg2 env' target d δ ∧ ∀ X₁ own₁ hB s', Bd c env' X₁ own₁ (fun uu => True) hB os s' (δ ++ σc) → ∃ b, EvB c n s' (testsOf ifs env') b ∧ (b = false → r = none) ∧ (b = true → ∃ d', r = some d' ∧ EvD c n (fun a => X₁ a ∨ own₁ a) s' (eval elt env') d')
theorem ext_kp {Z : Addr → Prop} (e : Ext s₀ s) (k : Kp Z s.heap s'.heap) (ho : s'.os = s.os) (hZ : ∀ a, Z a → s₀.heap.get? a = none) : Ext s₀ s' := by
  refine ⟨fun b o hb => ?_, ho.trans e.os⟩
  have nb : ¬ Z b := fun q => by rw [hZ b q] at hb; cases hb
  rcases e.keep b o hb with q | ⟨h1, ps, more, rfl, q⟩
  · rcases k b o q with z | z | z
    · exact absurd z nb
    · exact .inl z
    · exact .inr z
  · rcases k b _ q with z | z | ⟨_, ps', more', e', z⟩
    · exact absurd z nb
    · exact .inr ⟨h1, ps, more, rfl, z⟩
    · refine .inr ⟨h1, ps, more.app more', rfl, ?_⟩
      have : ps' = ps ++ more.vs := by
        have := congrArg Obj.data e'
        injection this with this
        exact this.symm
      rw [z, this, Array.append_assoc]
theorem comp_run {elt target iter : Expr} {ifs : List Expr} {scope : Scope} {cl : List (Str × Addr)} {it : Addr} {I : Addr → Prop} {J : (Addr → Prop) → List D → Shared → Prop} (g : D → Option D) {RR : Value → Addr → Result → Shared → Prop}
    (K : CompOk env scope cl) (B : Bd c env X₀ own Z hA os s₀ σ) (e0 : Ext s₀ s) (I0 : Inv c s) (hI : ∀ a, I a → s₀.heap.get? a = none ∧ (s.heap.get? a).isSome = true) (It : IterOk c n it I J) (hJ : J (fun a => (X₀ a ∨ own a) ∨ I a) ds s)
    (self : ∀ X r s (Q : Value → Shared → Prop), J X r s → Q (.ref it) s → W c n (pyIter (.ref it)) Q s)
    (hσ : ∀ C, ∀ p ∈ σc, σ.lookup p.1 = some p.2 ∧ (compEnvC scope cl C env).kindOf p.1 = some .cell) (hsz : ds.length ≤ 100000)
    (hturn : ∀ C, ∀ d ∈ ds, Turn c n os (compEnvC scope cl C env) target elt ifs σc d (g d))
    (hRR : ∀ a C s' m vs, s₀.heap.get? a = none → s₀.heap.get? C = none → @LT.lt Nat _ 256 a → @LT.lt Nat _ 256 C → a ≠ C → Ext s₀ s' → Inv c s' → s'.heap.Ns C m → IsL s'.heap a vs → TrL s'.heap (fun b => (X₀ b ∨ own b) ∨ b = a ∨ b = C) (ds.filterMap g) vs.toList → RR (.ref a) C (.ok .next) s') :
    W c n (newList []) (fun acc s₃ => W c n (newFunctionEnv scope env.globals cl [] env.qual none .none (some env)) (fun cenv s₄ =>
      codeAny (model PR c.w) (AL n) (.compStart (.ListComp elt [⟨target, iter, ifs, 0⟩] scope pos) 0 (.ref it) acc { cenv with scope := relabel scope env }) (RR acc cenv.locals) s₄) s₃) s := by
  refine wpAny_newObj_type (wpAny_newFunctionEnv K.cell (by intro y hy; simp at hy) (fun h₁ hns₁ hsb₁ => ?_) K.kind)
  dsimp only at hns₁ hsb₁ ⊢
  have E1 := ext_push s { cls := .type "list", dict := none, data := .seq ([] : List Value).toArray }
  generalize hH2 : s.heap.push { cls := .type "list", dict := none, data := .seq ([] : List Value).toArray } = H2 at hns₁ hsb₁ E1 ⊢
  have hC : H2.objs.size = s.heap.objs.size + 1 := by rw [← hH2, Heap.size_push]
  generalize hCd : H2.objs.size = C at hns₁ hsb₁ hC ⊢
  generalize hac : s.heap.objs.size = acc at hC ⊢
  have hDC : acc ≠ C := by rw [hC]; exact Nat.ne_of_lt (Nat.lt_succ_self _)
  have accF : s.heap.get? acc = none := hac ▸ size_none _
  have cF2 : H2.get? C = none := hCd ▸ size_none _
  have cF : s.heap.get? C = none := ext_none E1 cF2
  have accF0 := ext_none e0 accF
  have cF0 := ext_none e0 cF
  have farA : @LT.lt Nat _ 256 acc := hac ▸ I0.size
  have farC : @LT.lt Nat _ 256 C := by rw [hC]; exact Nat.lt_succ_of_lt farA
  have cI : ¬ I C := fun q => by have := (hI C q).2; rw [cF] at this; cases this
  have aI : ¬ I acc := fun q => by have := (hI acc q).2; rw [accF] at this; cases this
  have k1 : Keep H2 h₁ := Keep.full fun b o e => by
    refine (hsb₁.2 b ?_).trans (Heap.get?_push_of_some _ e)
    rintro rfl; rw [cF2] at e; cases e
  -- s4: both made
  have E4 : Ext s₀ ({ s with heap := h₁, toks := s.toks + ([] : List (Str × Value)).length } : Shared) := e0.trans (⟨E1.keep.trans k1, rfl⟩)
  have I4 : Inv c ({ s with heap := h₁, toks := s.toks + ([] : List (Str × Value)).length } : Shared) := I0.keep (E1.keep.trans k1) I0.bare
  have aL : IsL h₁ acc #[] := by
    have : H2.get? acc = some (lstO #[] 0) := by rw [← hH2, ← hac]; exact Heap.get?_push_size _ rfl
    exact ⟨0, (k1.get this (by intro e; cases e))⟩
  let XX : Addr → Prop := fun b => (X₀ b ∨ I b) ∨ own b ∨ b = C ∨ b = acc
  have hJ4 : J XX ds ({ s with heap := h₁, toks := s.toks + ([] : List (Str × Value)).length } : Shared) := by
    refine It.keep _ XX ds s _ hJ ⟨fun a o uu e hc => (E1.keep.trans k1).get e hc, fun a na sa q => ?_⟩ fun a o uu e hc => (E1.keep.trans k1).get e hc
    rcases q with (q | q) | q | q | q
    · exact na (.inl (.inl q))
    · exact na (.inr q)
    · exact na (.inl (.inr q))
    · rw [q, cF] at sa; cases sa
    · rw [q, accF] at sa; cases sa
  generalize hs4 : ({ s with heap := h₁, toks := s.toks + ([] : List (Str × Value)).length } : Shared) = s4 at E4 I4 hJ4 ⊢
  have hns4 : s4.heap.Ns C (fun x => ([] : List (Str × Value)).reverse.lookup x) := hs4 ▸ hns₁
  have aL4 : IsL s4.heap acc #[] := hs4 ▸ aL
  have exI4 : ∀ a, I a → (s4.heap.get? a).isSome = true := fun a h => hs4 ▸ ((E1.keep.trans k1).there (hI a h).2)
  show codeAny _ _ (.compStart _ 0 (.ref it) (.ref acc) (compEnvC scope cl C env)) (RR (.ref acc) C) s4
  let Inn (k : Nat) (s' : Shared) : Prop := ∃ r ys vs m, k = r.length ∧ ds.filterMap g = ys ++ r.filterMap g ∧ (∀ d ∈ r, d ∈ ds) ∧ ys.length + r.length ≤ ds.length ∧ Ez c s₀ s' (s'.heap.Ns C m ∧ IsL s'.heap acc vs ∧ TrL s'.heap XX ys vs.toList ∧ J XX r s' ∧ ∀ a, I a → (s'.heap.get? a).isSome = true)
  have loop : codeAny (model PR c.w) (AL n) (.compLoop (.ListComp elt [⟨target, iter, ifs, 0⟩] scope pos) 0 (.ref it) (.ref acc) (compEnvC scope cl C env)) (RR (.ref acc) C) s4 := by
    refine comp_loop Inn (fun k s' hs' => ?_) ds.length ⟨ds, [], #[], _, rfl, rfl, fun uu h => h, by simp, E4, I4, hns4, aL4, rfl, hJ4, exI4⟩
    obtain ⟨r, ys, vs, m, rfl, hy, hr, hlen, E, Iv, hn, hl, tl, hj, exI⟩ := hs'
    cases r with
    | nil =>
      refine wpAny_mono (It.stop _ s' hj Iv) (fun r' s5 zp => ?_) fun uu uu z => z
      obtain ⟨er, I5, o5, k5⟩ := zp
      subst er
      have E5 := ext_kp E k5 o5 fun a h => (hI a h).1
      refine hRR acc C s5 m vs accF0 cF0 farA farC hDC E5 I5 (ns_kp k5 cI hn) (list_obj hl fun o q1 q2 => k5.get q1 aI q2) ?_
      have e2 : ds.filterMap g = ys := by rw [hy]; simp
      rw [e2]
      refine TrL.mv ⟨fun a o na e hc => k5.get e (fun q => na (.inl (.inr q))) hc, fun a na uu q => na ?_⟩ _ _ tl
      rcases q with (q | q) | q | q
      · exact .inl (.inl q)
      · exact .inr (.inl q)
      · exact .inr (.inr (.inr q))
      · exact .inr (.inr (.inl q))
    | cons d r =>
      have Bn := comp_bd (σc := σc) K B E Iv cF0 accF0 (fun a h => (hI a h).1) cI aI farC farA exI (list_some hl) hn (hσ C)
      refine wpAny_mono (It.next _ d r s' target (fun a h => .inl (.inr h)) Bn.ex (fun h => nomatch h) hj Iv) (fun r' s5 zp => ?_) fun uu uu z => z
      obtain ⟨v, er, h5⟩ := zp
      subst er
      refine wpAny_mono h5 (fun uu s6 zp => ?_) fun uu uu z => z
      obtain ⟨I6, o6, k6, ex6, j6, t6⟩ := zp
      have E6 := ext_kp E k6 o6 fun a h => (hI a h).1
      have hn6 : s6.heap.Ns C m := ns_kp k6 cI hn
      have hl6 : IsL s6.heap acc vs := list_obj hl fun o q1 q2 => k6.get q1 aI q2
      have tl6 : TrL s6.heap XX ys vs.toList := TrL.mv ⟨fun a o na e hc => k6.get e (fun q => na (.inl (.inr q))) hc, fun uu na uu => na⟩ _ _ tl
      have B6 := comp_bd (σc := σc) K B E6 I6 cF0 accF0 (fun a h => (hI a h).1) cI aI farC farA ex6 (list_some hl6) hn6 (hσ C)
      obtain ⟨δ, ha, ht⟩ := hturn C d (hr d (by simp))
      refine ha c n _ _ _ _ _ s6 _ v _ B6 t6 fun s7 B7 k7 g7 => ?_
      obtain ⟨b, hb, hf, htr⟩ := ht _ _ _ s7 B7
      have k7' : Kp (fun a => a = C) s6.heap s7.heap := k7
      have E7 := ext_kp E6 k7' (B7.os.trans B6.os.symm) fun a h => h ▸ cF0
      have hl7 : IsL s7.heap acc vs := list_obj hl6 fun o q1 q2 => k7'.get q1 hDC q2
      have tl7 : TrL s7.heap XX ys vs.toList := TrL.mv ⟨fun a o na e hc => k7'.get e (fun q => na (.inr (.inr (.inl q)))) hc, fun uu na uu => na⟩ _ _ tl6
      have j7 : J XX r s7 := It.keep _ _ _ _ _ j6 ⟨fun a o na e hc => k7'.get e (fun q => na (.inr (.inr (.inl q)))) hc, fun uu na uu => na⟩ fun a o ha e hc => k7'.get e (fun q => cI (q ▸ ha)) hc
      have ex7 : ∀ a, I a → (s7.heap.get? a).isSome = true := fun a h => k7'.there (ex6 a h) fun q => cI (q ▸ h)
      have ns_of : ∀ s9, Bd c (compEnvC scope cl C env) (fun a => X₀ a ∨ I a) (fun a => own a ∨ a = C ∨ a = acc) (fun uu => True) s6.heap os s9 (δ ++ σc) → ∃ m', s9.heap.Ns C m' := fun s9 B9 => by
        obtain ⟨vm, F, _⟩ := B9.loc
        obtain ⟨m', hm', _⟩ := F.ns
        exact ⟨m', hm'⟩
      refine wz (hb s7 (.refl _) B7.inv) (fun b' s8 E8 I8 eb => ?_)
      subst eb
      have B8 := B7.ext E8 I8
      have rl : (d :: r).length = r.length + 1 := rfl
      cases b' with
      | false =>
        rw [if_neg (by decide)]
        obtain ⟨m', hm'⟩ := ns_of s8 B8
        have hg := hf rfl
        refine ⟨r.length, by rw [rl]; omega, r, ys, vs, m', rfl, ?_, fun d' h => hr d' (List.mem_cons_of_mem _ h), by rw [rl] at hlen; omega, E7.trans E8, I8, hm', list_obj hl7 fun o q1 q2 => E8.keep.get q1 q2, TrL.ext tl7 E8, It.keep _ _ _ _ _ j7 (.keep E8.keep) fun a o uu e hc => E8.keep.get e hc, fun a h => E8.keep.there (ex7 a h)⟩
        rw [hy, List.filterMap_cons, hg]
      | true =>
        rw [if_pos rfl]
        obtain ⟨d', hg, hev⟩ := htr rfl
        refine wz (hev s8 E8 I8) (fun u s9 E9 I9 t9 => ?_)
        have hl9 : IsL s9.heap acc vs := list_obj hl7 fun o q1 q2 => (E8.trans E9).keep.get q1 q2
        have sz : vs.size = ys.length := by rw [← tl.length, Array.length_toList]
        refine wpAny_list_append_plain (items := vs) hl9 (fun h' hp hs => ?_) (by show vs.size ≤ 2 ^ 24; rw [rl] at hlen; omega)
        obtain ⟨m', hm'⟩ := ns_of s9 (B8.ext E9 I9)
        have ka : Kp (fun a => a = acc) s9.heap h' := .same hs rfl
        have mvA : Mv s9.heap h' XX XX := .same hs (.inr (.inr (.inr rfl)))
        refine ⟨r.length, by rw [rl]; omega, r, ys ++ [d'], vs.push u, m', rfl, ?_, fun d' h => hr d' (List.mem_cons_of_mem _ h), by rw [rl] at hlen; simp; omega, ext_kp (E7.trans (E8.trans E9)) (s' := { s9 with heap := h' }) ka rfl fun a h => h ▸ accF0, I9.sameBut (t := s9.toks) hs farA, ?_, hp, ?_, ?_, ?_⟩
        · rw [hy, List.filterMap_cons, hg]; simp
        · exact hm'.sameBut hs (Ne.symm hDC)
        · rw [Array.toList_push]
          exact TrL.snoc (TrL.mv mvA _ _ (TrL.ext tl7 (E8.trans E9))) (Tr.mv mvA _ _ t9)
        · refine It.keep XX XX r s9 { s9 with heap := h' } (It.keep _ _ _ _ _ j7 (.keep (E8.trans E9).keep) fun a o uu e hc => (E8.trans E9).keep.get e hc) mvA fun a o ha e hc => ka.get e (fun q => aI (q ▸ ha)) hc
        · exact fun a h => ka.there ((E8.trans E9).keep.there (ex7 a h)) fun q => aI (q ▸ h)
  exact codeAny_compStart_list loop (wpNoE (self _ _ _ _ hJ4 loop))
end
end Mine
end
section
open PySem PySem.W PySem.Calls PyProof.Rows
set_option linter.unusedVariables false
set_option maxRecDepth 100000
namespace Mine
set_option genSizeOf false
set_option genInjectivity false
set_option tactic.hygienic false
section
variable {c : Cx} {n : Nat} {env : Env} {X X₀ own Z : Addr → Prop} {hA : Heap} {os : OsState} {s s' s₀ : Shared} {σ : List (Str × LV)} {d : D} {ds : List D} {pos : Pos} {rest body : List Stmt} {Q : Flow → Shared → Prop}
theorem evn_comp {elt target iter : Expr} {ifs : List Expr} {scope : Scope} {cl : List (Str × Addr)} (σc : List (Str × LV)) (g : D → Option D) (B : Bd c env X₀ own Z hA os s σ) (K : CompOk env scope cl) (hi : EvC c n (fun a => X₀ a ∨ own a) s (eval iter env) ds)
    (hσ : ∀ C, ∀ p ∈ σc, σ.lookup p.1 = some p.2 ∧ (compEnvC scope cl C env).kindOf p.1 = some .cell) (hturn : ∀ C, ∀ d ∈ ds, Turn c n os (compEnvC scope cl C env) target elt ifs σc d (g d)) (hsz : ds.length ≤ 100000)
    (hs : autoParam (∀ x, foldedSetIterable iter env x = pure x) tacI) : EvN c n (fun a => X₀ a ∨ own a) s (eval (.ListComp elt [⟨target, iter, ifs, 0⟩] scope pos) env) (ds.filterMap g) := fun s1 e1 I1 => by
  rw [eval_ListComp]
  refine wpAny_comprehension_free (use := none) rfl hs K.clos K.kind K.names (wpAny_mono (hi s1 e1 I1) (fun xv s2 h2 => wpAny_mono h2 (fun it s3 h3 => ?_) fun uu uu z => z) fun uu uu z => z)
  obtain ⟨e3, I3, it', I, J, rfl, hI, It, hJ, self⟩ := h3
  refine comp_run (s₀ := s1) (RR := fun acc C => compPost (model PR c.w) (AL n) NoE none _ acc C) g K (B.ext e1 I1) e3 I3 hI It hJ self hσ hsz hturn ?_
  intro a C s' m vs aF cF farA farC ne E' I' hn hl tl
  refine ⟨m, hn, fun h' hs' => ?_⟩
  have ka : Kp (fun b => b = C) s'.heap h' := .same hs' rfl
  refine ⟨ext_kp E' (s' := { s' with heap := h' }) ka rfl fun b h => h ▸ cF, I'.sameBut (t := s'.toks) hs' farC, a, vs, rfl, ext_none e1 aF, farA, list_obj hl fun o q1 q2 => ka.get q1 ne q2, TrL.mv ⟨fun b o na e hc => ka.get e (fun q => na (.inr (.inr q))) hc, fun b na uu q => na ?_⟩ _ _ tl⟩
  rcases q with q | q
  · exact .inl q
  · exact .inr (.inl q)
theorem ev_comp {elt target iter : Expr} {ifs : List Expr} {scope : Scope} {cl : List (Str × Addr)} (σc : List (Str × LV)) (g : D → Option D) (B : Bd c env X₀ own Z hA os s σ) (K : CompOk env scope cl) (hi : EvC c n (fun a => X₀ a ∨ own a) s (eval iter env) ds)
    (hσ : ∀ C, ∀ p ∈ σc, σ.lookup p.1 = some p.2 ∧ (compEnvC scope cl C env).kindOf p.1 = some .cell) (hturn : ∀ C, ∀ d ∈ ds, Turn c n os (compEnvC scope cl C env) target elt ifs σc d (g d)) (hsz : ds.length ≤ 100000)
    (hs : autoParam (∀ x, foldedSetIterable iter env x = pure x) tacI) : EvD c n (fun a => X₀ a ∨ own a) s (eval (.ListComp elt [⟨target, iter, ifs, 0⟩] scope pos) env) (.lst (ds.filterMap g)) := (evn_comp σc g B K hi hσ hturn hsz hs).tr B.ex
theorem st_comp {elt target iter : Expr} {ifs : List Expr} {scope : Scope} {cl : List (Str × Addr)} {y : Str} {py : Pos} {cpos : Pos} (σc : List (Str × LV)) (g : D → Option D) (B : Bd c env X₀ own Z hA os s σ) (K : CompOk env scope cl) (hi : EvC c n (fun a => X₀ a ∨ own a) s (eval iter env) ds)
    (hσ : ∀ C, ∀ p ∈ σc, σ.lookup p.1 = some p.2 ∧ (compEnvC scope cl C env).kindOf p.1 = some .cell) (hturn : ∀ C, ∀ d ∈ ds, Turn c n os (compEnvC scope cl C env) target elt ifs σc d (g d)) (hsz : ds.length ≤ 100000)
    (h : ∀ s', Bd c env X₀ own Z hA os s' ((y, .tr (.lst (ds.filterMap g))) :: σ) → W c n (execs rest env) Q s')
    (hk : autoParam (env.scope.kind = .function) tacR) (hy : autoParam (env.kindOf y = some .local) tacR) (hsw : autoParam (swapsWith (.ListComp elt [⟨target, iter, ifs, 0⟩] scope cpos) (some (.Name y py)) pos.line env = pure true) tacR)
    (hs : autoParam (∀ x, foldedSetIterable iter env x = pure x) tacI) : W c n (execs (.Assign [.Name y py] (.ListComp elt [⟨target, iter, ifs, 0⟩] scope cpos) pos :: rest) env) Q s := by
  refine wpAny_execs_cons ?_
  rw [exec_Assign_Name_used _ _ _ _ hsw]
  refine wpAny_bind (wpAny_standAt (wpAny_bind ?_))
  show W c n (do let _ ← comprehension (.ListComp elt [⟨target, iter, ifs, 0⟩] scope cpos) scope env _ (newList []) false (eval iter env) (some (assign (.Name y py) env))) _ s
  refine wpAny_bind (wpAny_mono (wpAny_comprehension_free (use := some (assign (.Name y py) env)) (Q := fun uu s' => W c n (execs rest env) Q s') rfl hs K.clos K.kind K.names
    (wpAny_mono (hi s (.refl _) B.inv) (fun xv s2 h2 => wpAny_mono h2 (fun it s3 h3 => ?_) fun uu uu z => z) fun uu uu z => z)) (fun uu s' hq => wpAny_pure (wpAny_pure hq)) fun uu uu e => e)
  obtain ⟨e3, I3, it', I, J, rfl, hI, It, hJ, self⟩ := h3
  refine comp_run (s₀ := s) (RR := fun acc C => compPost (model PR c.w) (AL n) NoE (some (assign (.Name y py) env)) _ acc C) g K B e3 I3 hI It hJ self hσ hsz hturn ?_
  intro a C s' m vs aF cF farA farC ne E' I' hn hl tl
  have B' := B.ext E' I'
  have nC : ¬ (X₀ C ∨ own C) := fresh_not B cF
  have nA : ¬ (X₀ a ∨ own a) := fresh_not B aF
  have exC : (s'.heap.get? C).isSome = true := by obtain ⟨o, _, _, ho, _⟩ := hn; rw [ho]; rfl
  -- the frame with C hidden, free to change
  have b0 : Bd c env (fun b => X₀ b ∨ b = C) own (fun b => own b ∨ b = C) s'.heap os s' σ := by
    obtain ⟨vm0, F0, g0⟩ := B.loc
    refine { B' with
      chg := .refl _ _
      mine := fun b h => .inl (.inl h)
      ex := fun b h => ?_
      dis := fun b h q => ?_
      loc := ?_ }
    · rcases h with (h | h) | h
      · exact B'.ex b (.inl h)
      · exact h ▸ exC
      · exact B'.ex b (.inr h)
    · rcases q with q | q
      · exact B.dis b h q
      · exact nC (.inr (q ▸ h))
    · refine ⟨vm0, F0.kp (Z := fun uu => False) (.of E'.keep) id (fun uu uu uu q => q), fun y lv q => ?_⟩
      obtain ⟨v, p1, p2⟩ := g0 y lv q
      refine ⟨v, p1, LV.ok.mv ⟨fun b o uu e hc => E'.keep.get e hc, fun b nb sb q => ?_⟩ (fun b o uu uu q1 q2 => E'.keep.get q1 q2) (fun uu z => z) p2⟩
      rcases q with (q | q) | q
      · exact nb (.inl q)
      · rw [q, cF] at sb; cases sb
      · exact nb (.inr q)
  show W c n (assign (.Name y py) env (.ref a)) _ s'
  refine wpAny_assign_Name (st_name2 (lv := .tr (.lst (ds.filterMap g))) b0 hk hy ⟨a, vs, rfl, ?_, hl, TrL.mv ⟨fun uu uu uu e uu => e, fun b na uu q => na ?_⟩ _ _ tl⟩ fun h2 m2 hs2 hn2 b2 => ?_)
  · rintro ((q | q) | q)
    · exact nA (.inl q)
    · exact ne q
    · exact nA (.inr q)
  · rcases q with (q | q) | q
    · exact .inl (.inl q)
    · exact .inr (.inr q)
    · exact .inl (.inr q)
  · have neL : C ≠ env.locals := fun q => nC (.inr (q ▸ B.ownL))
    refine ⟨m, hn.sameBut hs2 neL, fun h3 hs3 => h _ ?_⟩
    have b3 : Bd c env X₀ own (fun b => own b ∨ b = C) s'.heap os ({ ({ s' with heap := h2, toks := s'.toks + 1 } : Shared) with heap := h3 } : Shared) ((y, .tr (.lst (ds.filterMap g))) :: σ) :=
      b2.kpI (I := fun b => b = C) (X₂ := X₀) (.same hs3 rfl) (fun b h => ⟨.inr h, .inr h⟩) (b2.inv.sameBut (t := s'.toks + 1) hs3 farC) rfl (fun b h => .inl h) fun b h q => absurd (.inl (q ▸ h)) nC
    refine { b3 with
      chg := B'.chg.trans b3.chg fun b h => ?_
      mine := fun b h => ?_ }
    · rcases h with h | h
      · exact B.mine b h
      · subst h
        exact kp_none B.chg cF
    · exact B.mine b h
end
end Mine
end
section
open PySem PySem.W PySem.Calls PyProof.Rows
set_option linter.unusedVariables false
set_option maxRecDepth 100000
namespace Mine
set_option genSizeOf false
set_option genInjectivity false
set_option tactic.hygienic false
section
variable {c : Cx} {n : Nat} {env : Env} {X X₀ own Z : Addr → Prop} {hA : Heap} {os : OsState} {s s' s₀ : Shared} {σ : List (Str × LV)} {d : D} {ds : List D} {pos : Pos} {rest body : List Stmt} {Q : Flow → Shared → Prop}
theorem cmp_le {a b : Int} : CmpD c n .LtE (.int a) (.int b) (decide (a ≤ b)) := fun X s v1 v2 I zp1 zp2 => by obtain ⟨t, e1⟩ := zp1; obtain ⟨u, e2⟩ := zp2; subst e1 e2; exact PyProof.Rows.le_int ⟨.refl _, I, rfl⟩
theorem bin_pow {a b : Int} (h0 : 0 ≤ b) (hb : b ≤ 1000) (ha : a.natAbs < 1000) : BinD c n .Pow (.int a) (.int b) (.int (a ^ b.toNat)) := fun X s v1 v2 I uu zp1 zp2 => by
  obtain ⟨t, e1⟩ := zp1
  obtain ⟨u, e2⟩ := zp2
  subst e1 e2
  exact pow_int_small h0 (by omega) (by omega) ⟨.upd _ _, I.toks _, _, rfl⟩
noncomputable def cutD (ds : List D) (i j : Option Nat) : List D := match i, j with
  | none, none => ds
  | some a, none => ds.drop a
  | none, some b => ds.take b
  | some a, some b => (ds.drop a).take (b - a)
theorem cut_tr {h : Heap} {X : Addr → Prop} {us : Array Value} (t : TrL h X ds us.toList) : ∀ (i j : Option Nat), (∀ a, i = some a → a ≤ ds.length) → (∀ a b, i = some a → j = some b → a ≤ b ∧ b ≤ ds.length) → TrL h X (cutD ds i j) (slicePick us (i.map Int.ofNat) (j.map Int.ofNat) none).toList := by
  have sz : us.size = ds.length := by rw [← t.length, Array.length_toList]
  intro i j hi hij
  match i, j with
  | none, none => show TrL h X ds (slicePick us none none none).toList; rw [slicePick_all]; exact t
  | some a, none =>
    show TrL h X _ (slicePick us (some (a : Int)) none none).toList
    rw [slicePick_from _ _ (by rw [sz]; exact hi a rfl), List.toList_toArray]
    exact TrL.drop a t
  | none, some b =>
    show TrL h X _ (slicePick us none (some (b : Int)) none).toList
    by_cases hb : b ≤ us.size
    · rw [slicePick_upto _ _ hb, List.toList_toArray]
      exact TrL.take b t
    · have e : slicePick us none (some (b : Int)) none = us := by
        have e2 : sliceBounds none (some (b : Int)) none us.size = sliceBounds none none none us.size := by
          simp only [sliceBounds, Option.getD_none]
          have h1 : ¬ ((b : Int) < 0) := by omega
          simp only [h1, if_false, show (1 : Int) > 0 by decide, if_true]
          congr 2
          omega
        unfold slicePick
        rw [e2]
        exact slicePick_all us
      rw [e]
      show TrL h X (ds.take b) _
      rw [List.take_of_length_le (by omega)]; exact t
  | some a, some b =>
    obtain ⟨h1, h2⟩ := hij a b rfl rfl
    show TrL h X _ (slicePick us (some (a : Int)) (some (b : Int)) none).toList
    rw [slicePick_run _ _ _ (by omega) h1, List.toList_toArray]
    exact TrL.take _ (TrL.drop _ t)
noncomputable def EvPt (c : Cx) (n : Nat) (s₀ : Shared) (e : Option Expr) (env : Env) (i : Option Nat) : Prop := Ev c n s₀ (evalPart e env) (fun uu v => IsPart v (i.map Int.ofNat))
theorem evpt_none : EvPt c n s none env none := fun s' e I => evalPart_none_step ⟨.refl _, I, .none⟩
theorem evpt_some {e : Expr} {i : Nat} (h : EvD c n X s (eval e env) (.int i)) : EvPt c n s (some e) env (some i) := fun s' k I => evalPart_some_step (wz (h s' k I) (fun v s1 e1 I1 zr => by obtain ⟨t, r⟩ := zr; exact ⟨e1, I1, by rw [r]; exact .int _ _⟩))
theorem evn_slice {value : Expr} {lower upper : Option Expr} {p : Pos} {i j : Option Nat} {Rv : Shared → Value → Prop} (h : Ev c n s (eval value env) Rv) (hR : ∀ s1 s2 v, Ext s1 s2 → Inv c s2 → Rv s1 v → Ext s s1 → ∃ a us, v = .ref a ∧ IsL s2.heap a us ∧ TrL s2.heap X ds us.toList) (h1 : EvPt c n s lower env i) (h2 : EvPt c n s upper env j)
    (hi : ∀ a, i = some a → a ≤ ds.length) (hij : ∀ a b, i = some a → j = some b → a ≤ b ∧ b ≤ ds.length) (hsz : ds.length ≤ 100000)
    (ht : autoParam (∀ o r, letTemporaryGo value o r = pure ()) tacI) : EvN c n X s (eval (.Subscript value (.Slice lower upper none p) pos) env) (cutD ds i j) := fun s' e I => by
  refine wpAny_Subscript_list_slice (wz (h s' e I) (fun v s1 e1 I1 r => wz (h1 s1 (e.trans e1) I1) (fun vl s2 e2 I2 pl => wz (h2 s2 ((e.trans e1).trans e2) I2) (fun vu s3 e3 I3 pu => ?_)))) ht
  obtain ⟨a, us, rfl, hl, tl⟩ := hR s1 s3 v (e2.trans e3) I3 r (e.trans e1)
  have sz : us.size = ds.length := by rw [← tl.length, Array.length_toList]
  have Ea := ext_push s3 { cls := .type "slice", data := .fields #[vl, vu, .none] }
  have Eb := ext_push ({ s3 with heap := s3.heap.push { cls := .type "slice", data := .fields #[vl, vu, .none] } } : Shared) { cls := .type "list", data := .seq (slicePick us (i.map Int.ofNat) (j.map Int.ofNat) none) }
  have szp : (s3.heap.push { cls := .type "slice", data := .fields #[vl, vu, .none] }).objs.size = s3.heap.objs.size + 1 := Heap.size_push _ _
  have EE := (e.trans e1).trans (e2.trans e3)
  refine ⟨a, us, _, _, rfl, hl.is, by show us.size ≤ 2 ^ 24; omega, pl, pu, (e1.trans (e2.trans e3)).trans (Ea.trans Eb), (I3.keep Ea.keep I3.bare).keep Eb.keep I3.bare, s3.heap.objs.size + 1, _, rfl, ?_, Nat.lt_succ_of_lt I3.size, ⟨0, szp ▸ Heap.get?_push_size _ rfl⟩, ?_⟩
  · rw [← szp]; exact ext_none (EE.trans Ea) (size_none _)
  · rw [← szp]
    exact push_tr (TrL.ext (cut_tr tl i j hi hij) Ea)
theorem evn_slice_tr {value : Expr} {lower upper : Option Expr} {p : Pos} {i j : Option Nat} (h : EvD c n X s (eval value env) (.lst ds)) (h1 : EvPt c n s lower env i) (h2 : EvPt c n s upper env j)
    (hi : ∀ a, i = some a → a ≤ ds.length) (hij : ∀ a b, i = some a → j = some b → a ≤ b ∧ b ≤ ds.length) (hsz : ds.length ≤ 100000)
    (ht : autoParam (∀ o r, letTemporaryGo value o r = pure ()) tacI) : EvN c n X s (eval (.Subscript value (.Slice lower upper none p) pos) env) (cutD ds i j) :=
  evn_slice h (fun s1 s2 v e I zp uu => by obtain ⟨a, us, ev, na, hl, tl⟩ := zp; exact ⟨a, us, ev, list_obj hl fun o q1 q2 => e.keep.get q1 q2, TrL.ext tl e⟩) h1 h2 hi hij hsz ht
theorem evn_slice_live {x : Str} {xp : Pos} {a : Addr} {lower upper : Option Expr} {p : Pos} {i j : Option Nat} (B : Bd c env X₀ own Z hA os s σ) (hx : σ.lookup x = some (.ls a ds)) (h1 : EvPt c n s lower env i) (h2 : EvPt c n s upper env j)
    (hi : ∀ a, i = some a → a ≤ ds.length) (hij : ∀ a b, i = some a → j = some b → a ≤ b ∧ b ≤ ds.length) (hsz : ds.length ≤ 100000) (hk : autoParam (env.scope.kind = .function) tacR) (hx' : autoParam (isLC (env.kindOf x) = true) tacR) (hdb : autoParam ((x == ("__debug__" : Str)) = false) tacD)
    (ht : autoParam (∀ o r, letTemporaryGo (.Name x xp) o r = pure ()) tacI) : EvN c n (fun b => X₀ b ∨ own b) s (eval (.Subscript (.Name x xp) (.Slice lower upper none p) pos) env) (cutD ds i j) :=
  evn_slice (ev_live (n := n) B hx hk hx' hdb) (fun s1 s2 v e I ev es => by
    obtain ⟨_, us, hl, tl⟩ := (B.ext (es.trans e) I).live hx
    exact ⟨a, us, ev, hl, tl⟩) h1 h2 hi hij hsz ht

theorem ints_items {h : Heap} {X : Addr → Prop} : ∀ (ns : List Int) (us : List Value), TrL h X (ns.map D.int) us → ∃ xs : List (Int × Tok), us = xs.map (fun p => Value.int p.1 p.2) ∧ xs.map (·.1) = ns
  | [], us, e => ⟨[], by rw [show us = [] from e]; rfl, rfl⟩
  | i :: ns, us, zp => by
    obtain ⟨v, r, e, ⟨t, ev⟩, tl⟩ := zp
    obtain ⟨xs, h1, h2⟩ := ints_items ns r tl
    exact ⟨(i, t) :: xs, by rw [e, ev, h1]; rfl, by rw [List.map_cons, h2]⟩
theorem ev_sum {p : Pos} {e : Expr} {ns : List Int} (O : c.Ok) (h : EvD c n X s (eval e env) (.lst (ns.map D.int))) (hns : autoParam (noStar [e] = true) tacR) (hk : autoParam (env.scope.kind = .function) tacR) (hxx : autoParam (env.kindOf "sum" = some .globalImplicit) tacR) (hgl : autoParam (env.globals = mainGlobals) tacR) (hbl : autoParam (env.builtins = builtinsNs) tacR) :
    EvD c n X s (eval (.Call (.Name "sum" p) [e] [] pos) env) (.int ns.sum) := by
  refine ev_bcall (blt_name O (inF 2 rfl) boot_sum (by decide) hk hxx hgl hbl) (starEach_plain hns) EvEs.any (EvEs.evl (.cons h .nil)) fun vs s1 e1 I1 zp => ?_
  obtain ⟨v, r, ev, t, er⟩ := zp
  have er : r = [] := er
  subst er ev
  obtain ⟨a, us, rfl, na, hl, tl⟩ := t
  obtain ⟨xs, h1, h2⟩ := ints_items ns us.toList tl
  have hus : us = intItems xs.toArray := by
    apply Array.toList_inj.mp
    rw [h1]; simp [intItems]
  intro s2 e2 I2
  have hl2 := list_obj hl fun o q1 q2 => e2.keep.get q1 q2
  rw [hus] at hl2
  refine sum_intListG (A := AL n) rfl hl2.is fun h' tk t' hk => ?_
  have E : Ext s2 { s2 with heap := h', toks := tk } := ⟨Keep.full hk, rfl⟩
  refine ⟨E, I2.keep E.keep I2.bare, t', ?_⟩
  rw [preSum_eq]
  congr 1
  rw [List.take_of_length_le (by simp)]
  simp [h2]
theorem ev_item_last {value slice : Expr} {d : D} (h1 : EvD c n X s (eval value env) (.lst ds)) (h2 : EvD c n X s (eval slice env) (.int (-1))) (hd : ds.getLast? = some d) (hsz : ds.length ≤ 100000)
    (hs : autoParam (∀ t k u, subscripted slice false (.ref t) (.int k u) = operate [.ref t, .int k u] (getItem (.ref t) (.int k u))) tacW) : EvD c n X s (eval (.Subscript value slice pos) env) d := fun s' e I => by
  refine Subscript_ (wz (h1 s' e I) (fun v s1 e1 I1 t1 => wz (h2 s1 (e.trans e1) I1) (fun u s2 e2 I2 t2 => ?_)))
  obtain ⟨a, vs, rfl, na, ht, tl⟩ := t1.ext e2
  obtain ⟨tk, rfl⟩ := t2
  have sz : vs.size = ds.length := by rw [← tl.length, Array.length_toList]
  have hp : 0 < ds.length := by
    cases ds with
    | nil => cases hd
    | cons _ _ => exact Nat.succ_pos _
  have hg : ds[ds.length - 1]? = some d := by rw [← hd, List.getLast?_eq_getElem?]
  obtain ⟨w, hw, tw⟩ := tl.get hg
  refine tail_any ht.is.typeIs slot_list_getitem.lookup (wpAny_getItem_list_neg ht.is (by decide) (by omega) (by decide) (x := w) ?_ ⟨e1.trans e2, I2, tw⟩) (hs a (-1) tk)
  rw [show ((-1 : Int) + (vs.size : Int)).toNat = ds.length - 1 by omega]
  simpa using hw

theorem setItem_exact {a : Addr} {us : Array Value} {m : Nat} {k : Int} {t : Tok} {v : Value} {Q : Unit → Shared → Prop} (hm : s.heap.get? a = some (lstO us m)) (h0 : 0 ≤ k) (hk : k < us.size) (hsz : us.size ≤ 100000)
    (h : ∀ h' n', Heap.SameBut a s.heap h' → h'.get? a = some (lstO (us.setIfInBounds k.toNat v) n') → Q () { s with heap := h' }) : W c n (setItem (.ref a) (.int k t) v) Q s := by
  have hl : s.heap.IsList a us := ⟨_, hm, rfl, m, rfl⟩
  unfold setItem
  try with_reducible refine wpAny_holding ?_
  first | refine wpAny_bind (wpAny_pure ?_) | skip
  refine wpAny_bind (wpAny_sequenceKey hl.typeIs (by decide) ?_)
  refine wpAny_bind (wpAny_callSpecial?_slot (name := Str.ofString "__setitem__") hl.typeIs slot_list_setitem (wpAny_call_entry slot_list_setitem hl.typeIs entry_list_setitem ?_ (args_list_setitem _ _ _)))
  refine wpAny_bind (m := Builtin.List.listSubscript? (.int k t)) (wpAny_listSubscript_int (fitsIndex_of h0 (by omega)) ?_)
  obtain ⟨j, rfl⟩ := Int.eq_ofNat_of_zero_le h0
  have hj : j < us.size := by omega
  refine wpAny_bind (m := (seqItemAt a j >>= fun r => pure (r.map (j, ·)))) (wpAny_bind (wpAny_seqItemAt hm rfl (wpAny_pure ?_)))
  rw [Array.getElem?_eq_getElem hj]
  obtain ⟨m', hm'⟩ := mapSeq_lst (·.setIfInBounds j v) us m
  have key := h _ m' (.update s.heap a (Obj.mapSeq (·.setIfInBounds j v))) ((Heap.get?_update_self _ hm (by rw [hm']; rfl)).trans (by rw [hm']; rfl))
  refine wpAny_bind (m := setSeqItemAt a j v) (wpAny_setSeqItemAt hm rfl ?_)
  first
    | exact wpAny_bind (wpAny_pure (wpAny_pure ⟨.none, rfl, wpAny_pure key⟩))
    | exact wpAny_pure ⟨.none, rfl, wpAny_pure key⟩
theorem TrL.set {h : Heap} {X : Addr → Prop} : ∀ {ds : List D} {vs : List Value} (k : Nat) {d : D} {v : Value}, TrL h X ds vs → Tr h X d v → TrL h X (ds.set k d) (vs.set k v)
  | [], vs, k, d, v, e, t => by rw [show vs = [] from e]; exact rfl
  | d' :: ds, vs, 0, d, v, zp, t => by obtain ⟨u, r, e, t1, t2⟩ := zp; subst e; exact ⟨v, r, rfl, t, t2⟩
  | d' :: ds, vs, k + 1, d, v, zp, t => by obtain ⟨u, r, e, t1, t2⟩ := zp; subst e; exact ⟨u, r.set k v, rfl, t1, TrL.set k t2 t⟩
theorem st_setitem {x : Str} {a : Addr} {xp tp : Pos} {e i : Expr} {k : Int} (B : Bd c env X₀ own Z hA os s σ) (hl : σ.lookup x = some (.ls a ds)) (he : EvD c n (fun a => X₀ a ∨ own a) s (eval e env) d) (hi : EvD c n (fun a => X₀ a ∨ own a) s (eval i env) (.int k)) (h0 : 0 ≤ k) (hk : k < ds.length) (hsz : ds.length ≤ 1000)
    (hap : ∀ y b es, σ.lookup y = some (.ls b es) → y ≠ x → b ≠ a) (h : ∀ s', Bd c env X₀ own Z hA os s' ((x, .ls a (ds.set k.toNat d)) :: σ) → W c n (execs rest env) Q s')
    (hx' : autoParam (isLC (env.kindOf x) = true) tacR) (hkd : autoParam (env.scope.kind = .function) tacR) (hd : autoParam ((x == ("__debug__" : Str)) = false) tacD)
    (hsw : autoParam (swapsWith e (some (.Subscript (.Name x xp) i tp)) pos.line env = pure false) tacR) :
    W c n (execs (.Assign [.Subscript (.Name x xp) i tp] e pos :: rest) env) Q s := by
  refine wpAny_execs_cons (wpAny_Assign_Subscript (wz (he s (.refl _) B.inv) (fun v s1 e1 I1 t1 => wz (ev_live (n := n) B hl hkd hx' hd s1 e1 I1) (fun ov s2 e2 I2 eo => wz (hi s2 (e1.trans e2) I2) (fun iv s3 e3 I3 zr => ?_)))) hsw)
  obtain ⟨tk, ei⟩ := zr
  subst eo ei
  have B3 := B.ext ((e1.trans e2).trans e3) I3
  obtain ⟨_, us, hl3, tl3⟩ := B3.live hl
  have sz : us.size = ds.length := by rw [← tl3.length, Array.length_toList]
  obtain ⟨m, hm⟩ := hl3
  refine setItem_exact hm h0 (by omega) (by omega) fun h' n' hs hn => h _ ((B3.front hl).change hs hn ?_ hap)
  rw [Array.toList_setIfInBounds]
  exact TrL.set _ tl3 (t1.ext (e2.trans e3))
theorem st_augitem {x : Str} {a : Addr} {xp tp : Pos} {e i : Expr} {k p q : Int} (B : Bd c env X₀ own Z hA os s σ) (hl : σ.lookup x = some (.ls a ds)) (hi : EvD c n (fun a => X₀ a ∨ own a) s (eval i env) (.int k)) (h0 : 0 ≤ k) (hk : k < ds.length) (hsz : ds.length ≤ 1000) (hp : ds[k.toNat]? = some (.int p)) (he : EvD c n (fun a => X₀ a ∨ own a) s (eval e env) (.int q))
    (hap : ∀ y b es, σ.lookup y = some (.ls b es) → y ≠ x → b ≠ a) (h : ∀ s', Bd c env X₀ own Z hA os s' ((x, .ls a (ds.set k.toNat (.int (p + q)))) :: σ) → W c n (execs rest env) Q s')
    (hx' : autoParam (isLC (env.kindOf x) = true) tacR) (hkd : autoParam (env.scope.kind = .function) tacR) (hd : autoParam ((x == ("__debug__" : Str)) = false) tacD)
    (hst : autoParam (∀ ov iv new, augStore i ov iv new = (do holding [new, ov, iv] (setItem ov iv new); release [new, ov, iv] []; pure .next)) tacI) :
    W c n (execs (.AugAssign (.Subscript (.Name x xp) i tp) .Add e pos :: rest) env) Q s := by
  refine wpAny_execs_cons (wpAny_AugAssign_SubscriptAny (wz (ev_live (n := n) B hl hkd hx' hd s (.refl _) B.inv) (fun ov s1 e1 I1 eo => wz (hi s1 e1 I1) (fun iv s2 e2 I2 zr => ?_))) hst)
  obtain ⟨tk, ei⟩ := zr
  subst eo ei
  have B2 := B.ext (e1.trans e2) I2
  obtain ⟨_, us, hl2, tl2⟩ := B2.live hl
  obtain ⟨w, hw, tkw, ew⟩ := tl2.get hp
  subst ew
  refine wpAny_getItem_list hl2.is h0 (by omega) (by simpa using hw) ?_
  refine wz (he s2 (e1.trans e2) I2) (fun v s3 e3 I3 zr => ?_)
  obtain ⟨t3, ev⟩ := zr
  subst ev
  refine iadd_int ?_
  have B3 := B2.ext (e3.trans (.upd s3 (s3.toks + 1))) (I3.toks _)
  obtain ⟨_, us3, hl3, tl3⟩ := B3.live hl
  have sz : us3.size = ds.length := by rw [← tl3.length, Array.length_toList]
  obtain ⟨m, hm⟩ := hl3
  refine setItem_exact hm h0 (by omega) (by omega) fun h' n' hs hn => h _ ((B3.front hl).change hs hn ?_ hap)
  rw [Array.toList_setIfInBounds]
  exact TrL.set _ tl3 ⟨_, rfl⟩
end
end Mine
end
section
open PySem PySem.W PySem.Calls PyProof.Rows
set_option linter.unusedVariables false
set_option maxRecDepth 100000
namespace Mine
set_option genSizeOf false
set_option genInjectivity false
set_option tactic.hygienic false
structure AccT (c : Cx) : Prop extends AccS c where
  geti : findIn c.K (.ref 117) "__getitem__" = some (some (.builtin "list.__getitem__"))
  seti : findIn c.K (.ref 117) "__setitem__" = some (some (.builtin "list.__setitem__"))
  seq : noSeq c.K 117 = true
section
variable {c : Cx} {n : Nat} {env : Env} {X X₀ own Z : Addr → Prop} {hA : Heap} {os : OsState} {s s' s₀ : Shared} {σ : List (Str × LV)} {d : D} {ds : List D} {pos : Pos} {rest body : List Stmt} {Q : Flow → Shared → Prop}
theorem acc_special {A : Around} {Qo : Option Value → Shared → Prop} {E : Value → Shared → Prop} {a dx : Addr} {vs : Array Value} {i0 : Int} {name : Str} {id : String} {args : List Value} (I : Inv c s) (h : AccRaw s.heap a dx vs i0) (hf : findIn c.K (.ref 117) name = some (some (.builtin id)))
    (hb : bindSpecial (.builtin id) (.ref a) = pure (.builtin id, [.ref a])) (hc : wpAny (model PR c.w) A (call (.builtin id) (.ref a :: args)) (fun v s' => Qo (some v) s') E s) : wpAny (model PR c.w) A (callSpecial? (.ref a) name args) Qo E s := by
  obtain ⟨m, od, It, _⟩ := h.inst
  unfold callSpecial? specialOf
  refine wpAny_bind (wpAny_bind (It.type.here ((looks_findIn I.kin hf).here ?_)))
  refine wpAny_holding (wpAny_bind (wpAny_of_eq hb ?_))
  exact wpAny_bind (wpAny_mono hc (fun v s' q => wpAny_pure q) fun uu uu z => z)
theorem acc_key {A : Around} {Qv : Value → Shared → Prop} {E : Value → Shared → Prop} {a dx : Addr} {vs : Array Value} {i0 : Int} {name : Str} {k : Value} (K : AccT c) (I : Inv c s) (h : AccRaw s.heap a dx vs i0) (hq : Qv k s) : wpAny (model PR c.w) A (sequenceKey (.ref a) k name) Qv E s := by
  obtain ⟨m, od, It, _⟩ := h.inst
  unfold sequenceKey
  refine wpAny_bind (It.type.here ?_)
  refine wpAny_bind ((anyM_none I.kin K.seq).here ?_)
  rw [if_pos (show (!false) = true from rfl)]
  exact wpAny_pure hq
theorem acc_getslice {a dx sl : Addr} {us : Array Value} {i0 : Int} {i : Nat} {t : Tok} {Qv : Value → Shared → Prop} (K : AccT c) (I : Inv c s) (h : AccRaw s.heap a dx us i0) (hs : s.heap.IsSliceOf sl (.int i t) .none .none) (hi : i ≤ us.size) (hsz : us.size ≤ 100000)
    (hq : Qv (.ref s.heap.objs.size) { s with heap := s.heap.push { cls := .type "list", data := .seq (us.toList.drop i).toArray } }) : W c n (getItem (.ref a) (.ref sl)) Qv s := by
  obtain ⟨f1, f2, ⟨m, h1⟩, _⟩ := id h
  obtain ⟨os', hos, hcs, hds⟩ := id hs
  have hTs : s.TypeIs (.ref sl) "slice" := ⟨os', hos, hcs⟩
  unfold getItem
  try with_reducible refine wpAny_holding ?_
  refine wpAny_bind (acc_key K I h ?_)
  refine wpAny_bind (acc_special I h K.geti (slot_list_getitem.bind _) (call_accB I h (.inr (by decide +kernel)) (nm := "__getitem__") (by decide +kernel) slot_list_getitem.plain entry_list_getitem K.sub (args_list_getitem _ _) ?_))
  refine wpAny_bind (m := Builtin.List.listSubscript? (.ref sl)) ?_
  unfold Builtin.List.listSubscript?
  refine wpAny_bind (wpAny_specialOf hTs slice_no_index ?_)
  rw [Option.isNone_none, if_pos rfl]
  refine wpAny_pure ?_
  show wpAny _ _ (typeOf (.ref sl) >>= _) _ _ s
  refine wpAny_bind (wpAny_typeOf hTs ?_)
  rw [if_neg (by decide), listSliceParts_eq]
  refine wpAny_bind (wpAny_bind (wpAny_field hos hds (x := .none) rfl (wpAny_bind (wpAny_listPart .none ?_))))
  rw [if_neg (show ¬ ((rawPart none == rawInt 0) = true) from Bool.false_ne_true)]
  refine wpAny_bind (wpAny_field hos hds (x := .int i t) rfl (wpAny_bind (wpAny_listPart (.int _ _) ?_)))
  refine wpAny_bind (wpAny_field hos hds (x := .none) rfl (wpAny_bind (wpAny_listPart .none (wpAny_pure ?_))))
  refine wpAny_bind (m := Builtin.List.listItems (.ref a)) ?_
  unfold Builtin.List.listItems
  refine wpAny_bind (wpAny_seqItems h1 rfl (wpAny_pure ?_))
  refine wpAny_bind (wpAny_of_eq (sliceIndices_raw (some (i : Int)) none none us.size (by simp)) ?_)
  have e : slicePick us (some (i : Int)) none none = (us.toList.drop i).toArray := slicePick_from us i hi
  refine wpAny_bind (wpAny_newObj_type (wpAny_pure ⟨_, rfl, wpAny_pure ?_⟩) (Nat.le_trans (slicePick_size_le us (some (i : Int)) none none) (by show _ ≤ 2 ^ 24; omega)))
  have q2 := hq
  rw [← e] at q2
  exact q2
end
end Mine
end
section
open PySem PySem.W PySem.Calls PyProof.Rows
set_option linter.unusedVariables false
set_option maxRecDepth 100000
namespace Mine
set_option genSizeOf false
set_option genInjectivity false
set_option tactic.hygienic false
theorem bounds_from (i m : Nat) (h : i ≤ m) : sliceBounds (some (i : Int)) none none m = ((i : Int), (m : Int), 1) := by
  simp only [sliceBounds, Option.getD_none]
  have h1 : ¬ ((i : Int) < 0) := by omega
  simp only [h1, if_false, show (1 : Int) > 0 by decide, if_true]
  congr 1
  omega
section
variable {c : Cx} {n : Nat} {env : Env} {X X₀ own Z : Addr → Prop} {hA : Heap} {os : OsState} {s s' s₀ : Shared} {σ : List (Str × LV)} {d : D} {ds : List D} {pos : Pos} {rest body : List Stmt} {Q : Flow → Shared → Prop}
theorem acc_setslice {a dx sl nl : Addr} {us : Array Value} {i0 : Int} {i : Nat} {t : Tok} {Qu : Unit → Shared → Prop} (K : AccT c) (I : Inv c s) (h : AccRaw s.heap a dx us i0) (hs : s.heap.IsSliceOf sl (.int i t) .none .none) (hn : IsL s.heap nl #[]) (hi : i ≤ us.size) (hsz : us.size ≤ 100000)
    (hq : ∀ h', Heap.SameBut a s.heap h' → AccRaw h' a dx (us.extract 0 i) i0 → Qu () { s with heap := h' }) : W c n (setItem (.ref a) (.ref sl) (.ref nl)) Qu s := by
  obtain ⟨f1, f2, ⟨m, h1⟩, od, tt, h2, h3, h4, h5⟩ := id h
  obtain ⟨os', hos, hcs, hds⟩ := id hs
  obtain ⟨k, hk⟩ := id hn
  have hTs : s.TypeIs (.ref sl) "slice" := ⟨os', hos, hcs⟩
  have ne : ¬ a = nl := fun q => by rw [q, hk] at h1; cases h1
  unfold setItem
  try with_reducible refine wpAny_holding ?_
  refine wpAny_bind (acc_key K I h ?_)
  refine wpAny_bind (acc_special I h K.seti (slot_list_setitem.bind _) (call_accB I h (.inl (by decide +kernel)) (nm := "__setitem__") (by decide +kernel) slot_list_setitem.plain entry_list_setitem K.sub (args_list_setitem _ _ _) ?_))
  refine wpAny_bind (m := Builtin.List.listSubscript? (.ref sl)) ?_
  unfold Builtin.List.listSubscript?
  refine wpAny_bind (wpAny_specialOf hTs slice_no_index ?_)
  rw [Option.isNone_none, if_pos rfl]
  refine wpAny_pure ?_
  show wpAny _ _ (typeOf (.ref sl) >>= _) _ _ s
  refine wpAny_bind (wpAny_typeOf hTs ?_)
  rw [if_neg (by decide), listSliceParts_eq]
  refine wpAny_bind (wpAny_bind (wpAny_field hos hds (x := .none) rfl (wpAny_bind (wpAny_listPart .none ?_))))
  rw [if_neg (show ¬ ((rawPart none == rawInt 0) = true) from Bool.false_ne_true)]
  refine wpAny_bind (wpAny_field hos hds (x := .int i t) rfl (wpAny_bind (wpAny_listPart (.int _ _) ?_)))
  refine wpAny_bind (wpAny_field hos hds (x := .none) rfl (wpAny_bind (wpAny_listPart .none (wpAny_pure ?_))))
  have hsame : Builtin.List.listSameRef (.ref a) (.ref nl) = false := by simp [Builtin.List.listSameRef, ne]
  show wpAny _ _ (if Builtin.List.listSameRef (.ref a) (.ref nl) = true then _ else _) _ _ s
  rw [hsame, if_neg (by decide)]
  refine wpAny_bind (m := Builtin.List.listAllItems (.ref nl) _) ?_
  unfold Builtin.List.listAllItems
  refine wpAny_bind (wpAny_typeOf (T := "list") ⟨_, hk, rfl⟩ ?_)
  rw [if_pos (by decide)]
  show wpAny _ _ (Builtin.List.listItems (.ref nl)) _ _ s
  unfold Builtin.List.listItems
  refine wpAny_bind (wpAny_seqItems hk rfl (wpAny_pure ?_))
  refine wpAny_bind (m := Builtin.List.listItems (.ref a)) ?_
  unfold Builtin.List.listItems
  refine wpAny_bind (wpAny_seqItems h1 rfl (wpAny_pure ?_))
  refine wpAny_bind (wpAny_of_eq (sliceIndices_raw (some (i : Int)) none none us.size (by simp)) ?_)
  rw [bounds_from i us.size hi]
  dsimp only
  rw [if_pos (show ((1:Int) == 1) = true from rfl)]
  refine wpAny_bind (wpAny_rule ?_)
  rw [if_neg (show ¬ (Builtin.List.listTooLong (us.size + (#[] : Array Value).size) = true) by simp [Builtin.List.listTooLong, sizeLine]; omega)]
  have ne2 : dx ≠ a := fun q => by
    rw [q, h1] at h2; cases h2
    exact nomatch h3
  have e3 : ∀ f : Array Value → Array Value, f us = us.extract 0 i → ∃ m', Obj.mapSeq f (accO dx us m) = accO dx (us.extract 0 i) m' := fun f hf => by
    rw [← hf]
    unfold Obj.mapSeq
    exact ⟨_, rfl⟩
  have e2 : (max ((i : Int)) (us.size : Int)).toNat = us.size := by omega
  obtain ⟨m', hm⟩ := e3 (fun xs => xs.extract 0 ((i : Int)).toNat ++ #[] ++ xs.extract (max ((i : Int)) (us.size : Int)).toNat xs.size) (by simp only [Int.toNat_natCast, e2]; simp)
  show wpAny _ _ (Builtin.List.listUpdate (.ref a) _ >>= fun uu => _) _ _ s
  refine wpAny_bind (m := updateSeq a _) (wpAny_updateSeq h1 rfl (wpAny_bind (wpAny_letGo (wpAny_pure ⟨.none, rfl, wpAny_pure (hq _ (.update ..) ?_)⟩))) (by show _ ≤ 2 ^ 24; omega) ?_)
  · exact ⟨f1, f2, ⟨m', (Heap.get?_update_self _ h1 (by rw [hm]; rfl)).trans (by rw [hm])⟩, od, tt, (Heap.get?_update_other _ _ (Ne.symm ne2)).trans h2, h3, h4, h5⟩
  · simp only [Int.toNat_natCast, e2]; simp; show _ ≤ 2 ^ 24 + 1; omega
end
end Mine
end
section
open PySem PySem.W PySem.Calls PyProof.Rows
set_option linter.unusedVariables false
set_option maxRecDepth 100000
namespace Mine
set_option genSizeOf false
set_option genInjectivity false
set_option tactic.hygienic false
section
variable {c : Cx} {n : Nat} {env : Env} {X X₀ own Z : Addr → Prop} {hA : Heap} {os : OsState} {s s' s₀ : Shared} {σ : List (Str × LV)} {d : D} {ds : List D} {pos : Pos} {rest body : List Stmt} {Q : Flow → Shared → Prop}
theorem acc_inPy {A : Around} {Qb : Bool → Shared → Prop} {E : Value → Shared → Prop} {a dx : Addr} {vs : Array Value} {i0 : Int} (K : AccT c) (I : Inv c s) (h : AccRaw s.heap a dx vs i0) (hq : Qb false s) : wpAny (model PR c.w) A (getitemInPython (.ref a)) Qb E s := by
  obtain ⟨m, od, It, _⟩ := h.inst
  rw [getitemInPython_of_ne (fun q => by cases q)]
  unfold specialOf
  exact wpAny_bind (wpAny_bind (It.type.here ((looks_findIn I.kin K.geti).here (wpAny_pure hq))))
theorem evn_accslice {x : Str} {a dx : Addr} {i0 : Int} {xp p : Pos} {e : Expr} {i : Nat} (K : AccT c) (B : Bd c env X₀ own Z hA os s σ) (hl : σ.lookup x = some (.ac a dx ds i0)) (he : EvD c n (fun b => X₀ b ∨ own b) s (eval e env) (.int i)) (hi : i ≤ ds.length) (hsz : ds.length ≤ 1000)
    (hk : autoParam (env.scope.kind = .function) tacR) (hx' : autoParam (isLC (env.kindOf x) = true) tacR) (hdb : autoParam ((x == ("__debug__" : Str)) = false) tacD)
    (ht : autoParam (∀ o r, letTemporaryGo (.Name x xp) o r = pure ()) tacI) : EvN c n (fun b => X₀ b ∨ own b) s (eval (.Subscript (.Name x xp) (.Slice (some e) none none p) pos) env) (ds.drop i) := fun s' k I => by
  rw [eval_Subscript]
  refine wpAny_bind (wz (ev_lacc (n := n) B hl hk hx' hdb s' k I) (fun v s1 e1 I1 ev => ?_))
  subst ev
  refine wpAny_bind (wpAny_holding (wpAny_Slice (evalPart_some_step (wz (he s1 (k.trans e1) I1) (fun vi s2 e2 I2 zr => ?_)))))
  obtain ⟨t, r⟩ := zr
  subst r
  refine evalPart_none_step (evalPart_none_step ?_)
  have Ea := ext_push s2 { cls := .type "slice", data := .fields #[.int i t, .none, .none] }
  have EE := (k.trans e1).trans (e2.trans Ea)
  have I3 := I2.keep Ea.keep I2.bare
  obtain ⟨oa, od, us, hr, tl⟩ := (B.ext EE I3).lacc hl
  have sz : us.size = ds.length := by rw [← tl.length, Array.length_toList]
  refine wpAny_bind (wpAny_standAt ?_)
  refine wpAny_bind (acc_inPy K I3 hr ?_)
  refine wpAny_bind (wpAny_operating ?_)
  refine acc_getslice K I3 hr ⟨_, Heap.get?_push_size _ rfl, rfl, rfl⟩ (by omega) (by omega) ?_
  refine wpAny_bind (wpAny_of_eq (ht _ _) (wpAny_pure ?_))
  have Eb := ext_push ({ s2 with heap := s2.heap.push { cls := .type "slice", data := .fields #[.int i t, .none, .none] } } : Shared) { cls := .type "list", data := .seq (us.toList.drop i).toArray }
  have szp : (s2.heap.push { cls := .type "slice", data := .fields #[.int i t, .none, .none] }).objs.size = s2.heap.objs.size + 1 := Heap.size_push _ _
  refine ⟨(e1.trans e2).trans (Ea.trans Eb), I3.keep Eb.keep I3.bare, _, _, rfl, ?_, ?_, ⟨0, Heap.get?_push_size _ rfl⟩, ?_⟩
  · exact ext_none EE (size_none _)
  · rw [szp]; exact Nat.lt_succ_of_lt I2.size
  · have q := push_tr (o := { cls := .type "list", data := .seq (us.toList.drop i).toArray }) (TrL.drop i tl)
    rw [List.toList_toArray]
    exact q
theorem st_accdel {x : Str} {a dx : Addr} {i0 : Int} {xp p tp lp : Pos} {e : Expr} {i : Nat} (K : AccT c) (B : Bd c env X₀ own Z hA os s σ) (hl : σ.lookup x = some (.ac a dx ds i0)) (he : EvD c n (fun b => X₀ b ∨ own b) s (eval e env) (.int i)) (hi : i ≤ ds.length) (hsz : ds.length ≤ 1000)
    (hap : ∀ y l b, σ.lookup y = some l → y ≠ x → b ∈ l.addrs → b ∉ [a, dx]) (h : ∀ s', Bd c env X₀ own Z hA os s' ((x, .ac a dx (ds.take i) i0) :: σ) → W c n (execs rest env) Q s')
    (hk : autoParam (env.scope.kind = .function) tacR) (hx' : autoParam (isLC (env.kindOf x) = true) tacR) (hdb : autoParam ((x == ("__debug__" : Str)) = false) tacD)
    (hsw : autoParam (swapsWith (.List [] lp) (some (.Subscript (.Name x xp) (.Slice (some e) none none p) tp)) pos.line env = pure false) tacR) :
    W c n (execs (.Assign [.Subscript (.Name x xp) (.Slice (some e) none none p) tp] (.List [] lp) pos :: rest) env) Q s := by
  refine wpAny_execs_cons (wpAny_Assign_Subscript (wz (evn_lst (c := c) (n := n) (X := fun b => X₀ b ∨ own b) (pos := lp) (.nil (s := s)) rfl (by rfl) s (.refl _) B.inv) (fun v s1 e1 I1 zr => wz (ev_lacc (n := n) B hl hk hx' hdb s1 e1 I1) (fun ov s2 e2 I2 eo => ?_))) hsw)
  obtain ⟨nl, nvs, env1, hn1, hn2, hn3, hn4⟩ := zr
  subst eo env1
  refine wpAny_Slice (evalPart_some_step (wz (he s2 (e1.trans e2) I2) (fun vi s3 e3 I3 zr => ?_)))
  obtain ⟨t, r⟩ := zr
  subst r
  refine evalPart_none_step (evalPart_none_step ?_)
  have Ea := ext_push s3 { cls := .type "slice", data := .fields #[.int i t, .none, .none] }
  have EE := (e1.trans e2).trans (e3.trans Ea)
  have I4 := I3.keep Ea.keep I3.bare
  have B4 := B.ext EE I4
  obtain ⟨oa, od, us, hr, tl⟩ := B4.lacc hl
  have sz : us.size = ds.length := by rw [← tl.length, Array.length_toList]
  have hnv : nvs = #[] := by
    have := hn4.length
    apply Array.eq_empty_of_size_eq_zero
    rw [← Array.length_toList, this]; rfl
  subst hnv
  refine acc_setslice K I4 hr ⟨_, Heap.get?_push_size _ rfl, rfl, rfl⟩ (hn3.imp fun k q => (e2.trans (e3.trans Ea)).keep.get q (fun z => nomatch z)) (by omega) (by omega) fun h' hs hr' => h _ ?_
  have kp : Kp (fun b => b ∈ (LV.ac a dx ds i0).addrs) _ h' := .same hs List.mem_cons_self
  refine B4.lend (lv' := .ac a dx (ds.take i) i0) hl kp (I4.sameBut hs hr.1) rfl (fun b hb => ?_) (fun b hb => hb) (fun v ok => ⟨ok.1, ok.2.1, ok.2.2.1, us.extract 0 i, hr', ?_⟩) hap
  · have hb : b = a ∨ b = dx := mem2 hb
    rcases hb with rfl | rfl
    · exact hr'.ex.1
    · exact hr'.ex.2
  · have e5 : (us.extract 0 i).toList = us.toList.take i := by simp
    rw [e5]
    exact TrL.take i (TrL.mv (.same hs (.inr oa)) _ _ tl)
end
end Mine
end
section
open PySem PySem.W PySem.Calls PyProof.Rows
set_option linter.unusedVariables false
set_option maxRecDepth 100000
namespace Mine
set_option genSizeOf false
set_option genInjectivity false
set_option tactic.hygienic false
theorem ok_popf : R_pop_from.Ok0 ["self", "i"] where
  mem := inF 2 rfl
  cl := rfl
  kinds := by rfl
  nodup := by decide
  cnodup := by decide
  celled := by rfl
  co := rfl
  gen := rfl
  fun_ := rfl
structure AccP (c : Cx) : Prop extends AccT c where
  d63 : ∃ o t n, c.K.lookup 63 = some o ∧ o.data = .seq #[.int 0 t] n
theorem bind_popf {c : Cx} {s : Shared} (K : AccP c) (I : Inv c s) (a b : Value) (kV doc pm an ct) : BindsTo s (R_pop_from.data kV doc pm an ct) ⟨[a, b], []⟩ [("self", a), ("i", b)] := by
  obtain ⟨o, t, n, h1, h2⟩ := K.d63
  exact BindsTo.of_defaults (T := 63) (o := o) (items := #[.int 0 t]) rfl (I.kin _ _ h1) h2 rfl rfl
theorem LVs.of_trL {h : Heap} {X own : Addr → Prop} : ∀ {ds : List D} {vs : List Value}, TrL h X ds vs → LVs h X own (ds.map .tr) vs
  | [], u1, e => e
  | u1 :: u2, u3, zp => by obtain ⟨v, r, e, t, ts⟩ := zp; exact ⟨v, r, e, t, LVs.of_trL ts⟩
section
variable {c : Cx} {n : Nat} {env : Env} {X X₀ own Z : Addr → Prop} {hA : Heap} {os : OsState} {s s' s₀ : Shared} {σ : List (Str × LV)} {d : D} {ds : List D} {pos : Pos} {rest body : List Stmt} {Q : Flow → Shared → Prop}
theorem call_ac {f : FnRec} {names : List Str} {x : Str} {a dx : Addr} {i0 : Int} {ds' args : List D} {dr : D} {vs : List Value} {Qv : Value → Shared → Prop} (O : f.Ok0 ("self" :: names)) (hlen : names.length = args.length) (hn : n ≤ 20) (B : Bd c env X₀ own Z hA os s σ) (hl : σ.lookup x = some (.ac a dx ds i0))
    (tv : TrL s.heap (fun b => X₀ b ∨ own b) args vs) (hap : ∀ y l b, σ.lookup y = some l → y ≠ x → b ∈ l.addrs → b ∉ [a, dx])
    (hbind : ∀ kV doc pm an ct, BindsTo s (f.data kV doc pm an ct) ⟨.ref a :: vs, []⟩ ((("self" : Str) :: names).zip (.ref a :: vs)))
    (hb : ∀ (own' : Addr → Prop) (s1 : Shared) (L : Addr) (cells : List (Str × Addr)), cells = cellsFrom (L + 1) (scOf f.st).names [] → (∀ b, b ∈ [a, dx] → own' b) → Bd c (f.env L cells) (fun b => X₀ b ∨ (own b ∧ b ∉ [a, dx])) own' (fun b => b ∈ [a, dx]) s.heap s.os s1 ((("self" : Str), LV.ac a dx ds i0) :: names.zip (args.map .tr)) →
      W c (n + 1) (execs (bodyOf f.st) (f.env L cells)) (fun fl s4 => ∃ σ4 : List (Str × LV), Bd c (f.env L cells) (fun b => X₀ b ∨ (own b ∧ b ∉ [a, dx])) own' (fun b => b ∈ [a, dx]) s.heap s.os s4 σ4 ∧ σ4.lookup ("self" : Str) = some (.ac a dx ds' i0) ∧ Tr s4.heap (fun b => (X₀ b ∨ (own b ∧ b ∉ [a, dx])) ∨ own' b) dr (match fl with | .ret v => v | _ => .none)) s1)
    (h : ∀ v s4, Bd c env X₀ own Z hA os s4 ((x, .ac a dx ds' i0) :: σ) → Tr s4.heap (fun b => X₀ b ∨ own b) dr v → Qv v s4) : W c n (call (.ref f.a) (.ref a :: vs)) Qv s := by
  obtain ⟨oa, odx, us, hr, tl⟩ := B.lacc hl
  have lent_of : ∀ b, b ∈ [a, dx] → own b := fun b hb => by
    simp only [List.mem_cons, List.not_mem_nil, or_false] at hb
    rcases hb with rfl | rfl
    · exact oa
    · exact odx
  have exl : ∀ b, b ∈ [a, dx] → (s.heap.get? b).isSome = true := fun b hb => B.ex b (.inr (lent_of b hb))
  have eqX : (fun b => (X₀ b ∨ (own b ∧ b ∉ [a, dx])) ∨ b ∈ [a, dx]) = fun b => X₀ b ∨ own b := by
    funext b
    refine propext ⟨fun q => ?_, fun q => ?_⟩
    · rcases q with (q | q) | q
      · exact .inl q
      · exact .inr q.1
      · exact .inr (lent_of b q)
    · by_cases m : b ∈ [a, dx]
      · exact .inr m
      · exact .inl (q.imp id fun q => ⟨q, m⟩)
  refine callGB (f := f) (X := fun b => X₀ b ∨ (own b ∧ b ∉ [a, dx])) (lent := fun b => b ∈ [a, dx]) (lvs := .ac a dx ds i0 :: args.map .tr) O (by simp [hlen]) hn B.inv (fun b hb => B.ex b (hb.imp id fun q => q.1)) (fun b hb => ⟨B.far b (lent_of b hb), exl b hb, fun q => ?_⟩) ?_ hbind ?_
  · rcases q with q | q
    · exact B.dis b (lent_of b hb) q
    · exact q.2 hb
  · rw [eqX]
    exact ⟨.ref a, _, rfl, ⟨rfl, by simp, by simp, us, hr, tl⟩, LVs.of_trL tv⟩
  · intro own' s1 L cells hcl hsub' B1
    refine wpAny_mono (hb own' s1 L cells hcl hsub' B1) (fun fl s4 zp => ?_) fun uu uu z => z
    obtain ⟨σ4, B4, hs4, t4⟩ := zp
    have less : ∀ b, (X₀ b ∨ own b) → (X₀ b ∨ (own b ∧ b ∉ [a, dx])) ∨ own' b := fun b q => by
      rcases q with q | q
      · exact .inl (.inl q)
      · by_cases m : b ∈ [a, dx]
        · exact .inr (hsub' b m)
        · exact .inl (.inr ⟨q, m⟩)
    obtain ⟨oa4, od4, vs4, hr4, tl4⟩ := B4.lacc hs4
    refine h _ s4 (B.lend (s' := s4) (lv' := .ac a dx ds' i0) hl B4.chg B4.inv B4.os (fun b hb => ?_) (fun b hb => hb) (fun v ok => ⟨ok.1, ok.2.1, ok.2.2.1, vs4, hr4, TrL.mv (.less less) _ _ tl4⟩) hap) (Tr.mv (.less less) _ _ t4)
    have hb : b = a ∨ b = dx := mem2 hb
    rcases hb with rfl | rfl
    · exact hr4.ex.1
    · exact hr4.ex.2
theorem st_retB {e : Expr} (B : Bd c env X₀ own Z hA os s σ) (he : EvD c n (fun a => X₀ a ∨ own a) s (eval e env) d) (hQ : ∀ v s', Bd c env X₀ own Z hA os s' σ → Tr s'.heap (fun a => X₀ a ∨ own a) d v → Q (.ret v) s') : W c n (execs (.Return (some e) pos :: rest) env) Q s :=
  wpAny_execs_cons (wpAny_Return_some (wz (he s (.refl _) B.inv) (fun v s1 e1 I1 t1 => hQ _ _ (B.ext e1 I1) t1)))
theorem st_popf {x y : Str} {a dx : Addr} {i0 : Int} {xp yp apos cpos : Pos} {e : Expr} {i : Nat} (K : AccP c) (B : Bd c env X₀ own Z hA os s σ) (hl : σ.lookup x = some (.ac a dx ds i0)) (he : EvD c n (fun a => X₀ a ∨ own a) s (eval e env) (.int i)) (hi : i ≤ ds.length) (hsz : ds.length ≤ 1000) (hn : n ≤ 20)
    (hap : ∀ y l b, σ.lookup y = some l → y ≠ x → b ∈ l.addrs → b ∉ [a, dx]) (h : ∀ s', Bd c env X₀ own Z hA os s' ((y, .tr (.lst (ds.drop i))) :: (x, .ac a dx (ds.take i) i0) :: σ) → W c n (execs rest env) Q s')
    (hns : autoParam (noStar [e] = true) tacR) (hx' : autoParam (isLC (env.kindOf x) = true) tacR) (hy' : autoParam (isLC (env.kindOf y) = true) tacR) (hk : autoParam (env.scope.kind = .function) tacR) (hd : autoParam ((x == ("__debug__" : Str)) = false) tacD) (hline : autoParam ((apos.endLine == cpos.line) = true) tacR)
    (hsw : autoParam (swapsWith (.Call (.Attribute (.Name x xp) "pop_from" apos) [e] [] cpos) (some (.Name y yp)) pos.line env = pure false) tacR) :
    W c n (execs (.Assign [.Name y yp] (.Call (.Attribute (.Name x xp) "pop_from" apos) [e] [] cpos) pos :: rest) env) Q s := by
  refine wpAny_execs_cons (wpAny_Assign_Name ?_ hsw)
  refine call_attr (wz (ev_lacc (n := n) B hl hk hx' hd s (.refl _) B.inv) (fun v s1 k1 I1 t1 => ?_)) (starEach_plain hns) (by rfl) rfl hline
  subst t1
  obtain ⟨_, _, vs1, hr1, _⟩ := (B.ext k1 I1).lacc hl
  obtain ⟨m1, od1, It, _, hno⟩ := hr1.inst
  refine getMethod_acc I1.kin It K.ga K.gat K.popf K.t70 (by rfl) (shadow_none hno (by decide)) ?_
  obtain ⟨o', fd, ho', hd'⟩ := fn_obj I1 (f := R_pop_from) (inF 2 rfl)
  refine callWith_function (o := o') (fd := fd) (evalArgs_plain (wz (EvEs.evl (.cons he .nil) s1 k1 I1) (fun vs s2 k2 I2 tv => ⟨⟨?_, hd'⟩, ?_⟩)))
  · refine k2.keep.get ho' ?_
    obtain ⟨o'', _, _, _, _, _, g1, g2, _⟩ := I1.fn R_pop_from (inF 2 rfl)
    rw [ho'] at g1; cases g1
    rw [g2]; intro q; cases q
  have B2 := B.ext (k1.trans k2) I2
  refine call_ac (f := R_pop_from) (names := ["i"]) (args := [.int i]) (ds' := ds.take i) (dr := .lst (ds.drop i)) (vs := vs) ok_popf rfl hn B2 hl tv hap (fun kV doc pm an ct => ?_) (fun own' s3 L cells hcl hsub' B3 => ?_) fun v s4 B4 t4 => ?_
  · obtain ⟨v1, r1, ev, _, er⟩ := tv
    have er : r1 = [] := er
    subst ev er
    exact bind_popf K I2 _ _ kV doc pm an ct
  · refine st_assign B3 ((evn_accslice K.toAccT B3 rfl (ev_loc B3 rfl) hi hsz).tr B3.ex) fun s4 B4 => ?_
    refine st_accdel (i := i) K.toAccT B4 rfl (ev_loc B4 rfl) hi hsz (fun y l b q ne hb => ?_) fun s5 B5 => ?_
    · have : l = .tr (.lst (ds.drop i)) ∨ l = .tr (.int i) := by
        rcases lookup_cons_or q with ⟨_, e⟩ | ⟨_, q⟩
        · exact .inl e.symm
        · rcases lookup_cons_or q with ⟨e, _⟩ | ⟨_, q⟩
          · exact absurd e ne
          · rcases lookup_cons_or q with ⟨_, e⟩ | ⟨_, q⟩
            · exact .inr e.symm
            · cases q
      rcases this with rfl | rfl <;> exact nomatch hb
    · exact st_retB B5 (ev_loc B5 rfl) fun v s6 B6 t6 => ⟨_, B6, rfl, t6⟩
  · exact st_name (lv := .tr (.lst (ds.drop i))) B4 hk hy' t4 fun s5 B5 => h s5 B5
end
end Mine
end
section
open PySem PySem.W PySem.Calls PyProof.Rows
set_option linter.unusedVariables false
set_option maxRecDepth 100000
namespace Mine
set_option genSizeOf false
set_option genInjectivity false
set_option tactic.hygienic false
noncomputable abbrev mwObj (id : String) (x : Addr) : Obj := { cls := .type "method-wrapper", dict := none, data := .fields #[.builtin id, .ref x], slots := #[] }
theorem slot_wd_get : Slot "wrapper_descriptor" "__get__" "wrapper_descriptor.__get__" := .of (owner := "wrapper_descriptor") (n := "__get__") (by rw [typeLookup_type, builtinLookup_eq_fast]; kernel_rfl) (by decide +kernel) (by decide +kernel) (by decide +kernel)
  (by first | exact .inl (by decide +kernel) | exact .inr (by decide +kernel)) (by rw [isSubtype_type]; kernel_rfl)
theorem entry_wd_get : entryFor table "wrapper_descriptor.__get__" = some Builtin.«wrapper_descriptor.__get__» := entryFor_of_tree (by kernel_rfl)
theorem args_wd_get (a b c : Value) : argsOk "wrapper_descriptor.__get__" ⟨[a, b, c], []⟩ := by unfold argsOk; kernel_rfl
theorem ty_list_len : typeOf (.builtin "list.__len__") = pure (.type "wrapper_descriptor") := by rfl
theorem ty_list_init : typeOf (.builtin "list.__init__") = pure (.type "wrapper_descriptor") := by rfl
section
variable {prog : Program} {w : World} {A : Around} {E : Value → Shared → Prop} {h : Heap} {g : Array GenState} {d : Drawn} {t : Nat} {os : OsState}
theorem mw_len {x C : Addr} {Q : Fin → Shared → Prop} {ox : Obj} (hx : h.get? x = some ox) (hi : Looks (model prog w) h (isSubtype ox.cls (.type "list")) true)
    (hq : Q (.done (.ret (.ref h.objs.size))) ⟨h.push (mwObj "list.__len__" x), g, d, t, os⟩) : wpAny (model prog w) A (Builtin.«wrapper_descriptor.__get__» ⟨[.builtin "list.__len__", .ref x, .ref C], []⟩) Q E ⟨h, g, d, t, os⟩ := by
  unfold Builtin.«wrapper_descriptor.__get__»
  have e1 : (Value.type (".".intercalate ("list.__len__".cutAt '.').dropLast)) = .type "list" := by decide +kernel
  repeat (first | wp_step | dsimp only)
  rw [e1]
  refine Looks.at hi ?_
  rw [if_neg (by decide)]
  repeat (first | wp_step | dsimp only)
  all_goals exact hq
theorem mw_init {x C : Addr} {Q : Fin → Shared → Prop} {ox : Obj} (hx : h.get? x = some ox) (hi : Looks (model prog w) h (isSubtype ox.cls (.type "list")) true)
    (hq : Q (.done (.ret (.ref h.objs.size))) ⟨h.push (mwObj "list.__init__" x), g, d, t, os⟩) : wpAny (model prog w) A (Builtin.«wrapper_descriptor.__get__» ⟨[.builtin "list.__init__", .ref x, .ref C], []⟩) Q E ⟨h, g, d, t, os⟩ := by
  unfold Builtin.«wrapper_descriptor.__get__»
  have e1 : (Value.type (".".intercalate ("list.__init__".cutAt '.').dropLast)) = .type "list" := by decide +kernel
  repeat (first | wp_step | dsimp only)
  rw [e1]
  refine Looks.at hi ?_
  rw [if_neg (by decide)]
  repeat (first | wp_step | dsimp only)
  all_goals exact hq
theorem sup_ga_w {so D x C : Addr} {id : String} {l₀ l : List Value} {K : Frag} {name : Str} {tk : Tok} {Q : Fin → Shared → Prop}
    (hso : h.get? so = some { cls := .type "super", dict := none, data := .fields #[.ref D, .ref x, .ref C], slots := #[] }) (hno : Looks (model prog w) h (opaqueClassAbove (.ref C)) none)
    (hC : Looks (model prog w) h (mroOf (.ref C)) l₀) (hl : (l₀.dropWhile (· != .ref D)).drop 1 = l) (X : K.In h)
    (hf : alongIn K name l = some (some (.builtin id))) (hTf : (⟨h, g, d, t, os⟩ : Shared).TypeIs (.builtin id) "wrapper_descriptor") (hxC : x ≠ C) (hn : (name == ("__class__" : Str)) = false)
    (hget : ∀ (A : Around) (Q : Fin → Shared → Prop) (E : Value → Shared → Prop), Q (.done (.ret (.ref h.objs.size))) ⟨h.push (mwObj id x), g, d, t, os⟩ → wpAny (model prog w) A (Builtin.«wrapper_descriptor.__get__» ⟨[.builtin id, .ref x, .ref C], []⟩) Q E ⟨h, g, d, t, os⟩)
    (hq : Q (.done (.ret (.ref h.objs.size))) ⟨h.push (mwObj id x), g, d, t, os⟩) :
    wpAny (model prog w) A (Builtin.«super.__getattribute__» ⟨[.ref so, .str name tk], []⟩) Q E ⟨h, g, d, t, os⟩ := by
  have hlk := slot_wd_get.lookup
  have hne : (Value.ref x == Value.ref C) = false := by simp [hxC]
  have hdt : ({ cls := .type "super", dict := none, data := .fields #[.ref D, .ref x, .ref C], slots := #[] } : Obj).data = .fields #[.ref D, .ref x, .ref C] := rfl
  have f0 : (#[.ref D, .ref x, .ref C] : Array Value)[0]? = some (.ref D) := rfl
  have f1 : (#[.ref D, .ref x, .ref C] : Array Value)[1]? = some (.ref x) := rfl
  have f2 : (#[.ref D, .ref x, .ref C] : Array Value)[2]? = some (.ref C) := rfl
  unfold Builtin.«super.__getattribute__»
  repeat (first
    | (with_reducible refine wpAny_field hso hdt f0 ?_) | (with_reducible refine wpAny_field hso hdt f1 ?_) | (with_reducible refine wpAny_field hso hdt f2 ?_)
    | (with_reducible refine ks_wpAny_notOpaque hno ?_)
    | (with_reducible refine Looks.at hC ?_; rw [hl])
    | (refine ks_forIn_along X (fun uu uu => rfl) rfl ?_ hf)
    | (with_reducible refine wpAny_typeOf hTf ?_)
    | (with_reducible refine wpAny_call_entry slot_wd_get hTf entry_wd_get ?_ (args_wd_get _ _ _))
    | (with_reducible refine hget _ _ _ ?_)
    | (with_reducible refine ⟨_, rfl, ?_⟩)
    | (simp only [hn, hne, Bool.or_false, Bool.false_eq_true, if_false])
    | wp_step
    | dsimp only)
  all_goals exact hq
theorem sup_getMethod {so D x C : Addr} {id : String} {l₀ l : List Value} {K : Frag} {name : Str} {pl : Sem Bool} {Q : Value × List Value → Shared → Prop}
    (hso : h.get? so = some { cls := .type "super", dict := none, data := .fields #[.ref D, .ref x, .ref C], slots := #[] }) (hno : Looks (model prog w) h (opaqueClassAbove (.ref C)) none)
    (hC : Looks (model prog w) h (mroOf (.ref C)) l₀) (hl : (l₀.dropWhile (· != .ref D)).drop 1 = l) (X : K.In h)
    (hf : alongIn K name l = some (some (.builtin id))) (hTf : ∀ t, (⟨h, g, d, t, os⟩ : Shared).TypeIs (.builtin id) "wrapper_descriptor") (hxC : x ≠ C) (hn : (name == ("__class__" : Str)) = false)
    (hget : ∀ (t : Nat) (A : Around) (Q : Fin → Shared → Prop) (E : Value → Shared → Prop), Q (.done (.ret (.ref h.objs.size))) ⟨h.push (mwObj id x), g, d, t, os⟩ → wpAny (model prog w) A (Builtin.«wrapper_descriptor.__get__» ⟨[.builtin id, .ref x, .ref C], []⟩) Q E ⟨h, g, d, t, os⟩)
    (hq : Q (.ref h.objs.size, []) ⟨h.push (mwObj id x), g, d, t + 1, os⟩) :
    wpAny (model prog w) A (getMethod (.ref so) name pl) Q E ⟨h, g, d, t, os⟩ := by
  have hlk := F.ks_slot_super_ga.lookup
  have hcan := F.ks_canon_super_ga
  have hT : ∀ t', (⟨h, g, d, t', os⟩ : Shared).TypeIs (.ref so) "super" := fun uu => ⟨_, hso, rfl⟩
  unfold getMethod
  refine wpAny_bind (wpAny_specialOf (hT _) hlk ?_)
  show wpAny _ _ (if (Manifest.canonical "super.__getattribute__" != "object.__getattribute__") = true then _ else _) _ _ _
  rw [if_pos hcan]
  unfold getAttr getAttrBy
  refine wpAny_bind (wpAny_bind (wpAny_mkText (wpAny_holding (wpAny_bind (wpAny_typeOf (hT _) (wpAny_bind (wpAny_of_eq hlk ?_)))))))
  show wpAny _ _ (getAttrByItsOwn (.ref so) (.str name t) (.type "super") (.builtin "super.__getattribute__") true false) _ _ _
  unfold getAttrByItsOwn hookBefore callGetattribute boundAndCalled
  refine wpAny_bind (wpAny_of_eq (show (if onTheHeap (.type "super") then typeLookup (.type "super") "__getattr__" else pure none) = pure none from rfl) ?_)
  refine wpAny_bind (wpAny_attempt (wpAny_holding ?_))
  show wpAny _ _ (bindSpecial (.builtin "super.__getattribute__") (.ref so) >>= _) _ _ _
  refine wpAny_bind (wpAny_of_eq (F.ks_slot_super_ga.bind _) ?_)
  refine wpAny_mono (Q := fun v s' => v = .ref h.objs.size ∧ s' = ⟨h.push (mwObj id x), g, d, t + 1, os⟩) (E := fun uu uu => False)
    (wpAny_call_entry F.ks_slot_super_ga (hT _) F.ks_entry_super_ga (sup_ga_w hso hno hC hl X hf (hTf _) hxC hn (hget _) ⟨_, rfl, rfl, rfl⟩) (F.ks_gaArgs_super _ _)) (fun v s' hv => ?_) fun uu uu z => z.elim
  obtain ⟨rfl, rfl⟩ := hv
  exact wpAny_pure (wpAny_pure hq)
theorem mw_call {s : Shared} {u x : Addr} {id : String} {Bi : Builtin} {Q : Value → Shared → Prop} (ho : s.heap.get? u = some (mwObj id x)) (hchk : checkBoundCall id ⟨[.ref x], []⟩ = pure ()) (hqu : (Code.builtin id ⟨[.ref x], []⟩).quiet = true) (hb : entryFor table id = some Bi)
    (hc : wpAny (model prog w) (A.under (.builtin id ⟨[.ref x], []⟩)) (Bi ⟨[.ref x], []⟩) (fun fin s' => ∃ v, fin = .done (.ret v) ∧ Q v s') E s) : wpAny (model prog w) A (call (.ref u) []) Q E s := by
  refine wpAny_call (codeAny_of_tree ?_)
  show wpAny _ A.in1 (callAny (.ref u) ⟨[], []⟩) _ _ s
  unfold callAny
  dsimp only
  refine wpAny_bind (wpAny_load ho ?_)
  dsimp only [mwObj]
  rw [if_pos (show (Value.type "method-wrapper" == Value.type "method" || Value.type "method-wrapper" == Value.type "builtin_function_or_method" || Value.type "method-wrapper" == Value.type "method-wrapper") = true by decide)]
  show wpAny _ A.in1 (if (Value.type "method-wrapper" != Value.type "method") = true then _ else _) _ _ s
  rw [if_pos (by decide)]
  refine wpAny_bind (wpAny_of_eq (a := ()) hchk ?_)
  refine wpAny_bind (wpAny_pure (wpAny_pure ?_))
  refine ⟨hqu, codeAny_builtin hb ?_⟩
  refine wpAny_mono hc (fun fin s' h' => ?_) fun uu uu h' => h'
  obtain ⟨v, rfl, hv⟩ := h'
  exact hv
theorem mw_callWith {s : Shared} {pos : Pos} {u x : Addr} {id : String} {Q : Value → Shared → Prop} (ho : s.heap.get? u = some (mwObj id x))
    (h : wpAny (model prog w) A (call (.ref u) []) Q E s) : wpAny (model prog w) A (callWith pos (.ref u) [] [] []) Q E s := by
  unfold callWith
  refine wpAny_bind (wpAny_holding (wpAny_pure (wpAny_bind (wpAny_standAt ?_))))
  refine wpAny_bind (m := keeperOf (.ref u)) ?_
  unfold keeperOf
  refine wpAny_bind (wpAny_load ho ?_)
  dsimp only [mwObj]
  rw [if_pos (by decide), if_pos (by decide)]
  refine wpAny_pure ?_
  exact wpAny_bind (wpAny_mono h (fun r s₂ hr => wpAny_bind (wpAny_holding (wpAny_point (wpAny_pure hr)))) fun uu uu x => x)
end
end Mine
end
section
open PySem PySem.W PySem.Calls PyProof.Rows
set_option linter.unusedVariables false
set_option maxRecDepth 100000
namespace Mine
set_option genSizeOf false
set_option genInjectivity false
structure AccU (c : Cx) : Prop extends AccP c where
  cell : ∃ o, c.K.lookup 42 = some o ∧ o.data = .cell (some (.ref 117))
  cd113 : ∃ o vs f t, c.K.lookup 113 = some o ∧ o.data = .fields vs ∧ vs[2]? = some (.str f t) ∧ ((PR.main.file : Str) == f) = true
  cd54 : ∃ o vs f t, c.K.lookup 54 = some o ∧ o.data = .fields vs ∧ vs[2]? = some (.str f t) ∧ ((PR.main.file : Str) == f) = true
  ob117 : ∃ cd, clsIn c.K 117 = some cd
  mro : mroIn c.K 117 (.ref 117) = some true
  supl : ks_superIn c.K 117 117 "__len__" = some (some (.builtin "list.__len__"))
  supi : ks_superIn c.K 117 117 "__init__" = some (some (.builtin "list.__init__"))
  tp : nsIn c.K cStatics "thirdparty.any" = some none
theorem cls_some {K : Frag} {a : Addr} {cd : ClassData} (e : clsIn K a = some cd) : ∃ o, K.lookup a = some o ∧ o.data = .cls cd := by
  unfold clsIn at e
  cases hk : K.lookup a with
  | none => rw [hk] at e; exact nsome e
  | some o =>
    rw [hk] at e
    obtain ⟨oc, od, dt, sl⟩ := o
    cases dt <;> first | exact nsome e | exact ⟨_, rfl, congrArg _ (Option.some.inj e)⟩
theorem main_super : (PR.main.scope.names.lookup ("super" : Str)).isSome = false := by rfl
section
variable {c : Cx} {n : Nat} {env : Env} {s s' s₀ : Shared}
theorem sup_base {body : List Stmt} {A : Around} {E : Value → Shared → Prop} {p0 p1 : Pos} {attr : Str} {whole : Sem Value} {f cda a dx : Addr} {of : Obj} {fd : FuncData} {ar : Arg} {vs : Array Value} {i0 : Int} {Q : Value → Shared → Prop} {m : Str → Option Value} (O : c.Ok) (K : AccU c) (I : Inv c s) (hr : AccRaw s.heap a dx vs i0)
    (hks : env.kindOf "super" = some .globalImplicit) (hkc : env.kindOf "__class__" = some .free) (hkd : env.scope.kind = .function) (hgl : env.globals = mainGlobals) (hbl : env.builtins = builtinsNs) (hcl : env.cells.lookup ("__class__" : Str) = some 42) (hat : (attr == ("__class__" : Str)) = false) (hfu : env.func = some f) (hf : s.heap.get? f = some of) (hfd : of.data = .func fd)
    (hp : (fd.params.posonlyargs ++ fd.params.args).head? = some ar) (hco : env.code = .ref cda) (hcc : ∃ o vs f t, c.K.lookup cda = some o ∧ o.data = .fields vs ∧ vs[2]? = some (.str f t) ∧ ((PR.main.file : Str) == f) = true)
    (hka : env.kindOf ar.arg = some .local) (hns : s.heap.Ns env.locals m) (hv : m ar.arg = some (.ref a))
    (h : ∀ h', h'.get? s.heap.objs.size = some { cls := .type "super", dict := none, data := .fields #[.ref 117, .ref a, .ref 117], slots := #[] } → (∀ y o, s.heap.get? y = some o → h'.get? y = some o) → Q (.ref s.heap.objs.size) { s with heap := h' }) :
    PySem.wpAt (model PR c.w) A (.func body env) (attributeBase (.Call (.Name "super" p0) [] [] p1) attr env whole) Q E s := by
  obtain ⟨oc, cvs, file, tf, h1, h2, h3, h4⟩ := hcc
  obtain ⟨om, od, It, _⟩ := hr.inst
  obtain ⟨ocl, hc1, hc2⟩ := K.cell
  obtain ⟨cd, hcd⟩ := K.ob117
  obtain ⟨oD, hD0, hD2⟩ := cls_some hcd
  have hD1 := I.kin _ _ hD0
  refine ks_wpAt_super_base hks hkc hat hfu hf hfd hp hco (I.kin _ _ h1) h2 h3 h4 main_super ?_
  refine ks_loadName_global hkd hks ?_
  refine loadGlobal_builtin (hgl ▸ I.gl) (O.no "super" (inF 11 rfl)) (hbl ▸ I.bl) ((O.blt _ (by decide)).trans (by kernel_rfl)) ⟨rfl, ?_⟩
  refine wpAny_loadName_free hkd hkc hcl ⟨_, I.kin _ _ hc1, hc2⟩ ?_
  refine wpAny_loadName_local hkd hka hns hv ?_
  obtain ⟨hh, g, d, t, os⟩ := s
  refine ks_wpAny_isType_cls hD1 hD2 ⟨rfl, ?_⟩
  refine ks_wpAny_call_super hD1 hD2 It.at_ It.cls (fun c e => ?_) (looks_mroIn I.kin K.mro) h
  cases e
end
end Mine
end
section
open PySem PySem.W PySem.Calls PyProof.Rows
set_option linter.unusedVariables false
set_option maxRecDepth 100000
namespace Mine
set_option genSizeOf false
set_option genInjectivity false
set_option tactic.hygienic false
theorem entry_list_len' : entryFor table "list.__len__" = some Builtin.«list.__len__» := entryFor_of_tree (by kernel_rfl)
section
variable {c : Cx} {n : Nat} {env : Env} {s s' s₀ : Shared} {ds : List D} {i0 : Int}
theorem len_tree {prog : Program} {w : World} {A : Around} {E : Value → Shared → Prop} {h : Heap} {g : Array GenState} {d : Drawn} {t : Nat} {os : OsState} {a dx : Addr} {us : Array Value} {m : Nat} {Q : Fin → Shared → Prop} (ho : h.get? a = some (accO dx us m))
    (hq : Q (.done (.ret (.int ((us.size : Nat) : Int) t))) ⟨h, g, d, t + 1, os⟩) : wpAny (model prog w) A (Builtin.«list.__len__» ⟨[.ref a], []⟩) Q E ⟨h, g, d, t, os⟩ := by
  unfold Builtin.«list.__len__»
  repeat (first | wp_step | dsimp only)
  all_goals exact hq
theorem part_fn (O : c.Ok) (K : AccU c) (hsz : ds.length ≤ 1000) (hn : n ≤ 20) : Fn c n (.ref 114) [.acc ds i0] (.int ds.length) := fun X s vs I hX t => by
  obtain ⟨v, r, rfl, ⟨a, dx, us, rfl, na, nx, hr, tl⟩, er⟩ := t
  have er : r = [] := er
  subst er
  have sz : us.size = ds.length := by rw [← tl.length, Array.length_toList]
  obtain ⟨o, kV, doc, pm, an, ct, h1, h2, h3, oc, cvs, ctk, h4, h5, h6, h7⟩ := I.fn R_part (inF 5 rfl)
  refine wpAny_call ?_
  refine ks_codeAny_call_defAt (fd := R_part.data kV doc pm an ct) (body := bodyOf R_part.st) (binds := [(("self" : Str), .ref a)]) (by show 320 + 20 * n < 1000; omega) h1 h3 I.lim ⟨R_part.cd, oc, cvs, ctk, rfl, h4, h6, h7⟩ rfl (.of_eq rfl) ?_ ?_ (fun h₀ hns hk₀ => ?_) rfl rfl rfl
  · show ∀ x ∈ (scOf R_part.st).names, x.2 ≠ .cell
    decide
  · intro x hx
    simp only [List.mem_cons, List.not_mem_nil, or_false] at hx
    subst hx
    rfl
  have K0 : Keep s.heap h₀ := Keep.full hk₀
  have I1 : Inv c { s with heap := h₀, toks := s.toks + 1 } := I.keep K0 I.bare
  have hr1 : AccRaw h₀ a dx us i0 := by
    obtain ⟨f1, f2, ⟨k, q1⟩, od, tk, q2, q3, q4, q5⟩ := hr
    exact ⟨f1, f2, ⟨k, hk₀ _ _ q1⟩, od, tk, hk₀ _ _ q2, q3, q4, q5⟩
  refine ks_wpAt_execs_cons (ks_wpAt_Return_some (ks_wpAt_MethodCall ?_))
  refine sup_base (m := fun x => [(("self" : Str), Value.ref a)].reverse.lookup x) O K I1 hr1 (by rfl) (by rfl) (by rfl) (by rfl) (by rfl) (by rfl) (by decide) (by rfl) (hk₀ _ _ h1) h3 (by rfl) (by rfl) K.cd113 (by rfl) hns (by rfl) fun h' hso hk' => ?_
  have I2 : Inv c { s with heap := h', toks := s.toks + 1 } := I1.keep (s' := { s with heap := h', toks := s.toks + 1 }) (Keep.full hk') I1.bare
  obtain ⟨om, od, It, _⟩ := (show AccRaw h' a dx us i0 by
    obtain ⟨f1, f2, ⟨k, q1⟩, od, tk, q2, q3, q4, q5⟩ := hr1
    exact ⟨f1, f2, ⟨k, hk' _ _ q1⟩, od, tk, hk' _ _ q2, q3, q4, q5⟩).inst
  obtain ⟨cd, hcd⟩ := K.ob117
  have hm := K.supl
  unfold ks_superIn at hm
  rw [hcd] at hm
  have hsub := looks_subIn (M := model PR c.w) I2.kin K.sub
  refine sup_getMethod (g := s.gens) (d := s.drawn) (t := s.toks + 1) (os := s.os) (l₀ := cd.mro) (K := c.K) hso (looks_opaque I2.kin K.tp) (fun A Q E s k q => wpAny_bind ((looks_clsIn I2.kin hcd) A _ E s k (wpAny_pure q))) rfl I2.kin hm (fun t => ty_list_len) (ks_ne I2.kin It hcd) (by decide) (fun t A Q E q => mw_len It.at_ (by rw [It.cls]; exact hsub) q) ?_
  refine mw_callWith (x := a) (id := "list.__len__") (Heap.get?_push_size _ rfl) ?_
  refine mw_call (x := a) (id := "list.__len__") (Heap.get?_push_size _ rfl) (by first | rfl | kernel_rfl) (Code.quiet_builtin _ (by decide +kernel)) entry_list_len' ?_
  refine len_tree (Heap.get?_push_of_some _ It.at_) ⟨_, rfl, ?_⟩
  show Ez c s _ (Tr _ X (.int ds.length) _)
  have E1 : Ext s ({ s with heap := h'.push (mwObj "list.__len__" a), toks := s.toks + 1 + 1 + 1 } : Shared) := ⟨(K0.trans (Keep.full hk')).trans (Keep.full fun b o e => Heap.get?_push_of_some _ e), rfl⟩
  exact ⟨E1, I.keep E1.keep I.bare, _, by rw [sz]⟩
end
end Mine
end
section
open PySem PySem.W PySem.Calls PyProof.Rows
set_option linter.unusedVariables false
set_option maxRecDepth 100000
namespace Mine
set_option genSizeOf false
set_option genInjectivity false
set_option tactic.hygienic false
section
variable {c : Cx} {n : Nat} {env : Env} {X X₀ own Z : Addr → Prop} {hA : Heap} {os : OsState} {s s' s₀ : Shared} {σ : List (Str × LV)} {d : D} {ds : List D} {i0 : Int} {pos : Pos} {rest body : List Stmt} {Q : Flow → Shared → Prop}
theorem EvD.int_any {t : Sem Value} {i : Int} (h : EvD c n X s t (.int i)) : EvD c n X₀ s t (.int i) := h.imp fun s v uu uu y => y
theorem ev_lacc_tr {x : Str} {a dx : Addr} (B : Bd c env X₀ own Z hA os s σ) (hl : σ.lookup x = some (.ac a dx ds i0)) (hk : autoParam (env.scope.kind = .function) tacR) (hx : autoParam (isLC (env.kindOf x) = true) tacR) (hd : autoParam ((x == ("__debug__" : Str)) = false) tacD) :
    EvD c n (fun b => X₀ b ∨ (own b ∧ b ∉ [a, dx])) s (eval (.Name x pos) env) (.acc ds i0) := fun s' e I =>
  wz (ev_lacc (n := n) B hl hk hx hd s' e I) (fun v s1 e1 I1 t1 => by
    subst t1
    obtain ⟨oa, od, us, hr, tl⟩ := (B.ext (e.trans e1) I1).lacc hl
    refine ⟨e1, I1, a, dx, us, rfl, ?_, ?_, hr, TrL.mv (.less fun b q => q.imp id fun q => q.1) _ _ tl⟩
    · rintro (q | q)
      · exact B.dis a oa q
      · exact q.2 (by simp)
    · rintro (q | q)
      · exact B.dis dx od q
      · exact q.2 (by simp))
theorem ev_part {x : Str} {xp apos : Pos} (O : c.Ok) (K : AccU c) (hX : ∀ a, X a → (s.heap.get? a).isSome = true) (he : EvD c n X s (eval (.Name x xp) env) (.acc ds i0)) (hsz : ds.length ≤ 1000) (hn : n ≤ 20) (hline : autoParam ((apos.endLine == pos.line) = true) tacR) :
    EvD c n X s (eval (.Call (.Attribute (.Name x xp) "part_count" apos) [] [] pos) env) (.int ds.length) := fun s' k I => by
  refine call_attr (wz (he s' k I) (fun v s1 k1 I1 t1 => ?_)) rfl (by rfl) rfl hline
  obtain ⟨a, dx, us, rfl, na, nx, hr, tl⟩ := t1
  obtain ⟨m1, od1, It, _, hno⟩ := hr.inst
  refine getMethod_acc I1.kin It K.ga K.gat K.part K.t114 (by rfl) (shadow_none hno (by decide)) ?_
  obtain ⟨o', fd, ho', hd'⟩ := fn_obj I1 (f := R_part) (inF 5 rfl)
  refine callWith_function (o := o') (fd := fd) (evalArgs_nil3 ⟨⟨ho', hd'⟩, ?_⟩)
  refine wz (part_fn (n := n) O K hsz hn X s1 [.ref a] I1 (fun b hb => (k.trans k1).keep.there (hX b hb)) ⟨.ref a, [], rfl, ⟨a, dx, us, rfl, na, nx, hr, tl⟩, rfl⟩) (fun v s2 k2 I2 t2 => ⟨k1.trans k2, I2, t2⟩)
end
end Mine
end
section
open PySem PySem.W PySem.Calls PyProof.Rows
set_option linter.unusedVariables false
set_option maxRecDepth 100000
namespace Mine
set_option genSizeOf false
set_option genInjectivity false
set_option tactic.hygienic false
theorem entry_list_init' : entryFor table "list.__init__" = some Builtin.«list.__init__» := entryFor_of_tree (by kernel_rfl)
theorem init_tree {prog : Program} {w : World} {A : Around} {E : Value → Shared → Prop} {s : Shared} {a : Addr} {o : Obj} {m : Nat} {Q : Fin → Shared → Prop} (ho : s.heap.get? a = some o) (hd : o.data = .seq #[] m)
    (hq : Q (.done (.ret .none)) { s with heap := s.heap.update a (Obj.mapSeq fun uu => #[]) }) : wpAny (model prog w) A (Builtin.«list.__init__» ⟨[.ref a], []⟩) Q E s := by
  unfold Builtin.«list.__init__»
  dsimp only
  rw [if_neg (by decide)]
  try rw [if_neg (by decide)]
  refine wpAny_bind (m := Builtin.List.listItems (.ref a)) ?_
  unfold Builtin.List.listItems
  refine wpAny_bind (wpAny_seqItems ho hd (wpAny_pure ?_))
  refine wpAny_bind (m := updateSeq a _) (wpAny_updateSeq ho hd (wpAny_bind (wpAny_letGo (wpAny_pure hq))) (by show _ ≤ 2 ^ 24; simp) (by show (#[] : Array Value).size ≤ 2 ^ 24 + 1; simp))
end Mine
end
section
open PySem PySem.W PySem.Calls PyProof.Rows
set_option linter.unusedVariables false
set_option maxRecDepth 100000
namespace Mine
set_option genSizeOf false
set_option genInjectivity false
set_option tactic.hygienic false
theorem refuse_acc (self : Value) : refuseLoop self "__setattr__" [.ref 117, .type "list", .type "object"] = pure () := by kernel_rfl
structure AccI (c : Cx) : Prop extends AccU c where
  sa : findIn c.K (.ref 117) "__setattr__" = some (some (.builtin "object.__setattr__"))
  taker : takerIn c.K 117 "_initial_size" = some none
  mro117 : ∃ cd, clsIn c.K 117 = some cd ∧ cd.mro = [.ref 117, .type "list", .type "object"] ∧ cd.hasDict = true
theorem acc_osa {c : Cx} {s : Shared} {A : Around} {R : Result → Shared → Prop} {a : Addr} {ox : Obj} {od : Option Obj} {tk : Tok} {v : Value} (K : AccI c) (I : Inv c s) (It : InstAt s.heap a ox 117 od)
    (h : ∀ b, wpAny (model PR c.w) A.in1 (Builtin.ObjectAttr.storeInOwnDict (.ref a) (.ref 117) (.str "_initial_size" tk) "_initial_size" v b)
      (fun fin s' => match fin with | .done f => R (.ok f) s' | .again c' => c'.quiet = true ∧ codeAny (model PR c.w) A c' R s') (fun e s' => R (.error e) s') s) :
    codeAny (model PR c.w) A (.call (.builtin "object.__setattr__") ⟨[.ref a, .str "_initial_size" tk, v], []⟩) R s := by
  have SF := PySem.F.store_object
  obtain ⟨cd, hc, hm, hdd⟩ := K.mro117
  have X := I.kin
  have sub : Looks (model PR c.w) s.heap (isInstance (.ref a) (.type "object")) true := It.type.andThen (looks_mroIn X (by unfold mroIn; rw [hc, Option.bind_some, hm]; rfl))
  refine codeAny_call_builtin SF.slot.plain SF.entry (@check_slot (model PR c.w) _ _ s "object.__setattr__" "object" "__setattr__" (.ref a) [.str "_initial_size" tk, v] [] _ SF.kind SF.split sub (SF.args (.ref a) (.str "_initial_size" tk) v) ?_)
  obtain ⟨attr, ha, hr⟩ := Option.bind_eq_some_iff.mp K.taker
  have hmr : Looks (model PR c.w) s.heap (mroOf (.ref 117)) cd.mro := (looks_clsIn X hc).andThen .now
  have L3 : Looks (model PR c.w) s.heap (Builtin.ObjectAttr.storeTaker? attr) none := by
    cases attr with
    | none => exact .now
    | some a =>
      obtain ⟨b, hb, e⟩ := Option.map_eq_some_iff.mp hr
      refine (looks_takesIn X hb).andThen ?_
      cases b with
      | true => cases e
      | false => exact .now
  rw [osa_eq, refuse_eq]
  refine wpAny_bind (wpAny_bind (It.type.here (wpAny_bind (hmr.here ?_))))
  rw [hm, refuse_acc]
  refine wpAny_pure (wpAny_bind (It.type.here (wpAny_bind ((looks_findIn X ha).here (wpAny_bind (L3.here ?_))))))
  exact h _
open PySem.Builtin PySem.Builtin.ObjectAttr in
theorem acc_store {c : Cx} {s : Shared} {A : Around} {R : Result → Shared → Prop} {a dx : Addr} {m : Nat} {tk : Tok} {v : Value} {n : Nat} (K : AccI c) (I : Inv c s) (ho : s.heap.get? a = some (accO dx #[] m)) (hd : s.heap.get? dx = some { cls := .type "dict", dict := none, data := .dict #[] n, slots := #[] })
    (h : ∀ h' od', Heap.SameBut dx s.heap h' → od' = Obj.putName "_initial_size" (PyData.keyHash c.w.params "_initial_size") (.str "_initial_size" s.toks) v { cls := .type "dict", dict := none, data := .dict #[] n, slots := #[] } → h'.get? dx = some od' → R (.ok (.ret .none)) { s with heap := h', toks := s.toks + 1 }) :
    codeAny (model PR c.w) A (.call (.builtin "object.__setattr__") ⟨[.ref a, .str "_initial_size" tk, v], []⟩) R s := by
  have It : InstAt s.heap a (accO dx #[] m) 117 (some { cls := .type "dict", dict := none, data := .dict #[] n, slots := #[] }) := ⟨ho, rfl, rfl, hd⟩
  refine acc_osa K I It fun b => ?_
  obtain ⟨cd, hc, hm, hdd⟩ := K.mro117
  have X := I.kin
  refine wpAny_bind (wpAny_pure (wpAny_bind (wpAny_bind (wpAny_loadPart ho (wpAny_bind ((looks_clsIn X hc).here ?_))))))
  rw [hdd]
  refine wpAny_pure (a := some dx) (wpAny_bind (wpAny_pure (wpAny_bind ?_)))
  unfold nsSet
  refine wpAny_bind (wpAny_bind (wpAny_askSetting (wpAny_pure (wpAny_bind (wpAny_mkText (wpAny_bind (wpAny_loadPart hd ?_)))))))
  dsimp only
  rw [if_neg (show ¬ (aRefKeyMayBeTheName (Str.ofString "_initial_size") #[] = true) by decide)]
  have od'f : (Obj.putName "_initial_size" (PyData.keyHash c.w.params "_initial_size") (.str "_initial_size" s.toks) v { cls := .type "dict", dict := none, data := .dict #[] n, slots := #[] } : Obj).isFreed = false := by rfl
  have D' := Heap.get?_update_self (h := s.heap) (a := dx) (Obj.putName "_initial_size" (PyData.keyHash c.w.params "_initial_size") (.str "_initial_size" s.toks) v) hd od'f
  refine wpAny_updatePart hd ?_
  refine wpAny_bind (wpAny_lookBehind D' (by rfl) ?_)
  exact wpAny_pure (h _ _ (.update ..) rfl D')
end Mine
end
section
open PySem PySem.W PySem.Calls PyProof.Rows
set_option linter.unusedVariables false
set_option maxRecDepth 100000
namespace Mine
set_option genSizeOf false
set_option genInjectivity false
set_option tactic.hygienic false
theorem acc_setinit {c : Cx} {n : Nat} {s : Shared} {a dx : Addr} {m k : Nat} {v : Value} {Q : Unit → Shared → Prop} (K : AccI c) (I : Inv c s) (ho : s.heap.get? a = some (accO dx #[] m)) (hd : s.heap.get? dx = some { cls := .type "dict", dict := none, data := .dict #[] k, slots := #[] })
    (h : ∀ h' od', Heap.SameBut dx s.heap h' → h'.get? dx = some od' → od'.cls = .type "dict" → lookIn "_initial_size" od' = some (some v) → (∀ x : Str, x ≠ "_initial_size" → lookIn x od' = some none) → Q () { s with heap := h', toks := s.toks + 2 }) :
    W c n (setAttr (.ref a) "_initial_size" v) Q s := by
  have It : InstAt s.heap a (accO dx #[] m) 117 (some { cls := .type "dict", dict := none, data := .dict #[] k, slots := #[] }) := ⟨ho, rfl, rfl, hd⟩
  refine set_plain I.kin It K.sa (acc_store (s := { s with toks := s.toks + 1 }) K (I.toks _) ho hd fun h' od' hs e hg => ?_)
  refine h h' od' hs hg (by rw [e]; rfl) ?_ ?_
  · rw [e]; rfl
  · intro x hx
    rw [e]
    have q : ∀ (hh : Int) (t : Tok), lookIn x { cls := .type "dict", dict := none, data := .dict #[⟨hh, .str (Str.ofString "_initial_size") t, v⟩] (k + 1), slots := #[] } = some none := fun hh t => by
      have q2 : (Value.str (Str.ofString "_initial_size") t).isStr x = false := by
        simp only [Value.isStr]
        exact beq_eq_false_iff_ne.mpr fun e => hx e.symm
      unfold lookIn
      simp only [List.find?_cons, q2, List.find?_nil]
      rfl
    exact q _ _
end Mine
end
section
open PySem PySem.W PySem.Calls PyProof.Rows
set_option linter.unusedVariables false
set_option maxRecDepth 100000
namespace Mine
set_option genSizeOf false
set_option genInjectivity false
set_option tactic.hygienic false
structure AccJ (c : Cx) : Prop extends AccI c where
  d47 : ∃ o t n, c.K.lookup 47 = some o ∧ o.data = .seq #[.int 0 t] n
theorem bind_init {c : Cx} {s : Shared} (K : AccJ c) (I : Inv c s) (a b : Value) (kV doc pm an ct) : BindsTo s (R_init.data kV doc pm an ct) ⟨[a, b], []⟩ [("self", a), ("initial_size", b)] := by
  obtain ⟨o, t, n, h1, h2⟩ := K.d47
  exact BindsTo.of_defaults (T := 47) (o := o) (items := #[.int 0 t]) rfl (I.kin _ _ h1) h2 rfl rfl
theorem init_fn {c : Cx} {n : Nat} {s : Shared} {a dx : Addr} {m k : Nat} {i0 : Int} {t : Tok} {R : Result → Shared → Prop} (O : c.Ok) (K : AccJ c) (I : Inv c s) (hn : n ≤ 20) (fa : @LT.lt Nat _ 256 a) (fd : @LT.lt Nat _ 256 dx) (ho : s.heap.get? a = some (accO dx #[] m)) (hd : s.heap.get? dx = some { cls := .type "dict", dict := none, data := .dict #[] k, slots := #[] })
    (h : ∀ h' tk, (∀ b o, b ≠ a → b ≠ dx → s.heap.get? b = some o → h'.get? b = some o) → AccRaw h' a dx #[] i0 → R (.ok (.ret .none)) { s with heap := h', toks := tk }) : codeAny (model PR c.w) (AL n) (.call (.ref 55) ⟨[.ref a, .int i0 t], []⟩) R s := by
  obtain ⟨o, kV, doc, pm, an, ct, h1', h2, h3, oc, cvs, ctk, h4, h5, h6, h7⟩ := I.fn R_init (inF 0 rfl)
  refine ks_codeAny_call_defAt (fd := R_init.data kV doc pm an ct) (body := bodyOf R_init.st) (binds := [(("self" : Str), .ref a), (("initial_size" : Str), .int i0 t)]) (by show 320 + 20 * n < 1000; omega) h1' h3 I.lim ⟨R_init.cd, oc, cvs, ctk, rfl, h4, h6, h7⟩ rfl (bind_init K I _ _ kV doc pm an ct) ?_ ?_ (fun h₀ hns hk₀ => ?_) rfl rfl rfl
  · show ∀ x ∈ (scOf R_init.st).names, x.2 ≠ .cell
    decide
  · refine al ?_ (al ?_ al0) <;> rfl
  have K0 : Keep s.heap h₀ := Keep.full hk₀
  have I1 : Inv c { s with heap := h₀, toks := s.toks + 2 } := I.keep K0 I.bare
  refine ks_wpAt_execs_cons (ks_wpAt_Assign_Attr ?_ (by rfl))
  refine wpAt_of_wpAny ?_
  refine wpAny_Name (x := "initial_size") ?_ (by decide)
  refine wpAny_loadName_local (v := .int i0 t) ?_ ?_ hns ?_ ?_
  · rfl
  · rfl
  · rfl
  refine wpAny_Name (x := "self") ?_ (by decide)
  refine wpAny_loadName_local (v := .ref a) ?_ ?_ hns ?_ ?_
  · rfl
  · rfl
  · rfl
  refine wpAny_mono (wp_weak (A' := AL (n + 1)) rfl (by show 320 + 20 * n + 1 ≤ 320 + 20 * (n + 1); omega) (by show 200 + 200 * n + 3 ≤ 200 + 200 * (n + 1); omega) rfl rfl
    (acc_setinit (n := n + 1) (m := m) (k := k) (Q := fun uu s' => ∃ h1 od1, s' = { s with heap := h1, toks := s.toks + 4 } ∧ Heap.SameBut dx h₀ h1 ∧ h1.get? dx = some od1 ∧ od1.cls = .type "dict" ∧ lookIn "_initial_size" od1 = some (some (.int i0 t)) ∧ ∀ x : Str, x ≠ "_initial_size" → lookIn x od1 = some none) K.toAccI I1 (hk₀ _ _ ho) (hk₀ _ _ hd) fun h1 od1 hs1 hg1 hc1 hl1 hl2 => ⟨h1, od1, rfl, hs1, hg1, hc1, hl1, hl2⟩)) (fun uu s1 zp => ?_) fun uu uu z => z.elim
  obtain ⟨h1, od1, es, hs1, hg1, hc1, hl1, hl2⟩ := zp
  subst es
  have ne : a ≠ dx := fun q => by
    have := hk₀ _ _ ho
    rw [q, hk₀ _ _ hd] at this
    cases this
  have kp1 : ∀ b o, b ≠ dx → s.heap.get? b = some o → h1.get? b = some o := fun b o nb e => (hs1.2 b nb).trans (hk₀ b o e)
  have I2 : Inv c { s with heap := h1, toks := s.toks + 4 } := I1.sameBut (t := s.toks + 4) hs1 fd
  have hr1 : AccRaw h1 a dx #[] i0 := ⟨fa, fd, ⟨m, kp1 a _ ne ho⟩, od1, t, hg1, hc1, hl1, hl2⟩
  refine ks_wpAt_execs_cons (ks_wpAt_Expr_any (ks_wpAt_MethodCall ?_) (by rfl))
  have hns1 : h1.Ns s.heap.objs.size (fun x => [(("self" : Str), Value.ref a), (("initial_size" : Str), Value.int i0 t)].reverse.lookup x) := by
    obtain ⟨oL, es, ep, hL, r⟩ := hns
    exact ⟨oL, es, ep, (hs1.2 _ (fun q => Nat.ne_of_lt (Heap.lt_size hd) q.symm)).trans hL, r⟩
  refine sup_base (s := { s with heap := h1, toks := s.toks + 4 }) O K.toAccU I2 hr1 (by rfl) (by rfl) (by rfl) (by rfl) (by rfl) (by rfl) (by decide) (by rfl) (kp1 55 o (ne_low fd (by decide)) h1') h3 (by rfl) (by rfl) K.cd54 (by rfl) hns1 (by rfl) fun h' hso hk' => ?_
  have I3 : Inv c { s with heap := h', toks := s.toks + 4 } := I2.keep (s' := { s with heap := h', toks := s.toks + 4 }) (Keep.full hk') I2.bare
  have It : InstAt h' a (accO dx #[] m) 117 (some od1) := ⟨hk' _ _ (kp1 a _ ne ho), rfl, rfl, hk' _ _ hg1⟩
  obtain ⟨cd, hcd⟩ := K.ob117
  have hm := K.supi
  unfold ks_superIn at hm
  rw [hcd] at hm
  have hsub := looks_subIn (M := model PR c.w) I3.kin K.sub
  refine sup_getMethod (g := s.gens) (d := s.drawn) (t := s.toks + 4) (os := s.os) (l₀ := cd.mro) (K := c.K) hso (looks_opaque I3.kin K.tp) (fun A Q E s k q => wpAny_bind ((looks_clsIn I3.kin hcd) A _ E s k (wpAny_pure q))) rfl I3.kin hm (fun t => ty_list_init) (ks_ne I3.kin It hcd) (by decide) (fun t A Q E q => mw_init It.at_ (by rw [It.cls]; exact hsub) q) ?_
  refine mw_callWith (x := a) (id := "list.__init__") (Heap.get?_push_size _ rfl) ?_
  refine mw_call (x := a) (id := "list.__init__") (Heap.get?_push_size _ rfl) (by first | rfl | kernel_rfl) (Code.quiet_builtin _ (by decide +kernel)) entry_list_init' ?_
  refine init_tree (o := accO dx #[] m) (m := m) (Heap.get?_push_of_some _ It.at_) rfl ⟨_, rfl, ?_⟩
  refine wpAt_of_wpAny (wpAny_execs_nil ?_)
  obtain ⟨m', hm'⟩ : ∃ m', Obj.mapSeq (fun uu => #[]) (accO dx #[] m) = accO dx #[] m' := by unfold Obj.mapSeq; exact ⟨_, rfl⟩
  have up := Heap.get?_update_self (h := h'.push (mwObj "list.__init__" a)) (a := a) (Obj.mapSeq fun uu => #[]) (Heap.get?_push_of_some _ It.at_) (by rw [hm']; rfl)
  have oth : ∀ b o, b ≠ a → h'.get? b = some o → ((h'.push (mwObj "list.__init__" a)).update a (Obj.mapSeq fun uu => #[])).get? b = some o := fun b o nb e => (Heap.get?_update_other _ _ (Ne.symm nb)).trans (Heap.get?_push_of_some _ e)
  exact h _ _ (fun b o na nd e => oth b o na (hk' _ _ (kp1 b o nd e))) ⟨fa, fd, ⟨m', up.trans (by rw [hm'])⟩, od1, t, oth dx od1 (Ne.symm ne) (hk' _ _ hg1), hc1, hl1, hl2⟩
end Mine
end
section
open PySem PySem.W PySem.Calls PyProof.Rows Builtin Builtin.ObjectAttr
set_option linter.unusedVariables false
set_option maxRecDepth 100000
namespace Mine
set_option genSizeOf false
set_option genInjectivity false
set_option tactic.hygienic false
structure AccN (c : Cx) : Prop extends AccJ c where
  obj117 : ∃ oc od cd sl, c.K.lookup 117 = some ⟨oc, od, .cls cd, sl⟩ ∧ cd.abstract = false ∧ cd.hasDel = false ∧ cd.mro.isEmpty = false ∧ (sl.toList[4]?).join = some (.builtin "list.__new__")
  call117 : specialIn c.K (.ref 117) "__call__" = some (some (.builtin "type.__call__"))
  typ117 : instIn c.K (.ref 117) (.type "type") = some true
  self117 : mroIn c.K 117 (.ref 117) = some true
  ini117 : findIn c.K (.ref 117) "__init__" = some (some (.ref 55))
  t55 : typeIn c.K (.ref 55) = some (.type "function")
structure MakesL (M : Model) (h : Heap) : Prop where
  obj : ∃ oc od cd sl, h.get? 117 = some ⟨oc, od, .cls cd, sl⟩ ∧ cd.abstract = false ∧ cd.hasDel = false ∧ cd.mro.isEmpty = false ∧ Looks M h (mroOf (.ref 117)) cd.mro
  made : Looks M h (Bind.madeBy (.ref 117)) (some "list.__new__")
  base : Looks M h (Bind.staticBase (.ref 117)) (.ref 117)
  self : Looks M h (isSubtype (.ref 117) (.ref 117)) true
  sub : Looks M h (isSubtype (.ref 117) (.type "list")) true
  call : Looks M h (specialOf (.ref 117) "__call__") (some (.builtin "type.__call__"))
  typ : Looks M h (isInstance (.ref 117) (.type "type")) true
  init : Looks M h (typeLookup (.ref 117) "__init__") (some (.ref 55))
theorem makesL {c : Cx} {M : Model} {h : Heap} (K : AccN c) (X : c.K.In h) : MakesL M h := by
  obtain ⟨oc, od, cd, sl, ho, e1, e2, e4, e3⟩ := K.obj117
  have hc : clsIn c.K 117 = some cd := by unfold clsIn; rw [ho]
  have hm : Looks M h (mroOf (.ref 117)) cd.mro := (looks_clsIn X hc).andThen .now
  obtain ⟨c', l, hl⟩ : ∃ c l, cd.mro = c :: l := by cases q : cd.mro with | nil => rw [q] at e4; cases e4 | cons c l => exact ⟨c, l, rfl⟩
  have made : Looks M h (Bind.madeBy (.ref 117)) (some "list.__new__") := by
    intro A Q E s k q
    unfold Bind.madeBy
    refine wpAny_bind (hm A _ E s k ?_)
    rw [hl, List.forIn_cons]
    refine wpAny_bind (wpAny_bind (wpAny_bind (wpAny_bind (wpAny_loadPart (k _ _ (X _ _ ho)) (wpAny_pure ?_)))))
    dsimp only
    rw [← Array.getElem?_toList, e3]
    exact wpAny_pure (wpAny_pure (wpAny_pure q))
  refine ⟨⟨oc, od, cd, sl, X _ _ ho, e1, e2, e4, hm⟩, made, ?_, looks_mroIn X K.self117, looks_subIn X K.sub, looks_specialIn X K.call117, looks_instIn X K.typ117, looks_findIn X K.ini117⟩
  intro A Q E s k q
  unfold Bind.staticBase
  refine wpAny_bind (hm A _ E s k ?_)
  rw [hl, List.forIn_cons]
  exact wpAny_bind (wpAny_bind (wpAny_bind (made A _ E s k (wpAny_pure (wpAny_pure (wpAny_pure q))))))
theorem kind_lnew : builtinKind "list.__new__" = some .builtinFn := by decide +kernel
theorem split_lnew : splitId "list.__new__" = some ("list", "__new__") := by decide +kernel
theorem sig_lnew (v : Value) : (match Manifest.signature? "list.__new__" with | none => (pure () : Sem Unit) | some sig => Bind.checkArgs "list.__new__" sig ⟨[.ref 117, v], []⟩) = pure () := by kernel_rfl
theorem sig_lnew_some : Manifest.signature? "list.__new__" ≠ none := fun h => by
  have : (Manifest.signature? "list.__new__").isSome = true := by kernel_rfl
  rw [h] at this; cases this
section
variable {prog : Program} {w : World} {A : Around} {R : Result → Shared → Prop} {h : Heap} {g : Array GenState} {d : Drawn} {t : Nat} {os : OsState} {v : Value}
theorem acc_new (Y : MakesL (model prog w) h)
    (hq : R (.ok (.ret (.ref (h.objs.size + 1)))) ⟨(h.push emptyDict).push (accO h.objs.size #[] 0), g, d, t, os⟩) :
    codeAny (model prog w) A (.call (.builtin "list.__new__") ⟨[.ref 117, v], []⟩) R ⟨h, g, d, t, os⟩ := by
  obtain ⟨⟨oc, od, cd, sl, hC, e1, e2, e4, hm⟩, made, base, self, sub, call, typ, init⟩ := Y
  have hargs := sig_lnew v
  refine codeAny_of_tree ?_
  show wpAny _ A.in1 (do checkBuiltinCall "list.__new__" ⟨[.ref 117, v], []⟩; again (.builtin "list.__new__" ⟨[.ref 117, v], []⟩)) _ _ _
  unfold checkBuiltinCall
  rw [kind_lnew, split_lnew]
  dsimp only
  cases hsig : Manifest.signature? "list.__new__" with
  | none => exact absurd hsig sig_lnew_some
  | some sig =>
  rw [hsig] at hargs
  replace hargs : Bind.checkArgs "list.__new__" sig ⟨[.ref 117, v], []⟩ = pure () := hargs
  dsimp only
  rw [hargs]
  have heq : (Manifest.canonical "list.__new__" != Manifest.canonical "list.__new__") = false := by simp
  repeat (first | rw [heq] | rw [bne_self_eq_false] | rw [if_neg Bool.false_ne_true] | lk)
  refine ⟨plainId_quiet F.plain_list_new _, codeAny_builtin_stack F.entry_list_new rfl fun p st => ?_⟩
  rw [Around.under_plainId F.plain_list_new _]
  have hown := owner_list_new
  first | rw [hown] | (dsimp only; rw [hown]) | simp only [hown]
  repeat (first | rw [if_neg Bool.false_ne_true] | lk)
  refine nd_load (Heap.get?_push_of_some _ (Heap.get?_push_of_some _ hC)) ?_
  repeat (first | rw [e2] | rw [if_neg Bool.false_ne_true] | lk)
  rw [Heap.size_push]
  exact hq
theorem acc_core (Y : MakesL (model prog w) h) (hf : Looks (model prog w) h (typeOf (.ref 55)) (.type "function"))
    (hq : codeAny (model prog w) (A.under (.builtin "type.__call__" ⟨[.ref 117, v], []⟩)) (.call (.ref 55) ⟨[.ref (h.objs.size + 1), v], []⟩) (InitBack (h.objs.size + 1) R) ⟨(h.push emptyDict).push (accO h.objs.size #[] 0), g, d, t, os⟩) :
    codeAny (model prog w) A (.call (.ref 117) ⟨[v], []⟩) R ⟨h, g, d, t, os⟩ := by
  have Y' := Y
  obtain ⟨⟨oc, od, cd, sl, hC, e1, e2, e4, hm⟩, made, base, self, sub, call, typ, init⟩ := Y
  refine codeAny_of_tree ?_
  show wpAny _ _ (callAny (.ref 117) _) _ _ _
  refine nd_load hC ?_
  show wpAny _ _ (callAny.viaDunder (.ref 117) _) _ _ _
  unfold callAny.viaDunder
  refine wpAny_bind (call.at ?_)
  dsimp only
  rw [tc_bind]
  refine wpAny_bind (wpAny_pure (wpAny_bind (wpAny_pure ?_)))
  refine wpAny_pure (a := Fin.again (.call (.builtin "type.__call__") ⟨[.ref 117, v], []⟩)) (And.intro rfl ?_)
  refine codeAny_call_builtin_at (Code.quiet_builtin _ (by decide +kernel)) entry_typeCall (check_slot tc_kind tc_split typ (tc_args _ _ _) ?_)
  unfold Builtin.«type.__call__»
  repeat (first | rw [e4] | rw [if_neg Bool.false_ne_true] | with_reducible refine wpAny_call ?_ | lk)
  refine acc_new Y' ?_
  have k : ∀ b o, h.get? b = some o → ((h.push emptyDict).push (accO h.objs.size #[] 0)).get? b = some o := fun b o e => Heap.get?_push_of_some _ (Heap.get?_push_of_some _ e)
  have hx : ((h.push emptyDict).push (accO h.objs.size #[] 0)).get? (h.objs.size + 1) = some (accO h.objs.size #[] 0) := by heap_get
  have t1 : Looks (model prog w) ((h.push emptyDict).push (accO h.objs.size #[] 0)) (typeOf (.ref (h.objs.size + 1))) (.ref 117) := (Looks.ld hx).andThen .now
  have s1 := self.keeps k
  have i1 := init.keeps k
  have b0 : Looks (model prog w) h (bindSpecial (.ref 55) (.ref (h.objs.size + 1))) (.ref 55, [.ref (h.objs.size + 1)]) := by
    unfold bindSpecial
    exact hf.andThen (Looks.of_pure (by kernel_rfl))
  have b1 := b0.keeps k
  unfold isInstance callSpecial? specialOf
  repeat (first | with_reducible refine wpAny_call ?_ | lk)
  refine codeAny_mono hq fun r s' z => ?_
  rcases r with e | (v | _ | _ | _) <;> first | exact z | exact z.elim | skip
  obtain ⟨rfl, z⟩ := z
  exact wpAny_pure (wpAny_pure z)
end
theorem acc_make {c : Cx} {n : Nat} {s : Shared} {i0 : Int} {tk : Tok} {Q : Value → Shared → Prop} (O : c.Ok) (K : AccN c) (I : Inv c s) (hn : n + 1 ≤ 20)
    (h : ∀ a dx s', s.heap.get? a = none → s.heap.get? dx = none → a ≠ dx → Ext s s' → Inv c s' → AccRaw s'.heap a dx #[] i0 → Q (.ref a) s') : W c n (call (.ref 117) [.int i0 tk]) Q s := by
  obtain ⟨hp, g, d, t, os⟩ := s
  refine wpAny_call (acc_core (makesL K I.kin) (looks_typeIn I.kin K.t55) ?_)
  have k : ∀ b o, hp.get? b = some o → ((hp.push emptyDict).push (accO hp.objs.size #[] 0)).get? b = some o := fun b o e => Heap.get?_push_of_some _ (Heap.get?_push_of_some _ e)
  have E1 : Ext ⟨hp, g, d, t, os⟩ ⟨(hp.push emptyDict).push (accO hp.objs.size #[] 0), g, d, t, os⟩ := ⟨Keep.full k, rfl⟩
  have sz : @LT.lt Nat _ 256 hp.objs.size := I.size
  have hx : ((hp.push emptyDict).push (accO hp.objs.size #[] 0)).get? (hp.objs.size + 1) = some (accO hp.objs.size #[] 0) := by heap_get
  have hd : ((hp.push emptyDict).push (accO hp.objs.size #[] 0)).get? hp.objs.size = some { cls := .type "dict", dict := none, data := .dict #[] 0, slots := #[] } := Heap.get?_push_of_some _ (Heap.get?_push_size _ rfl)
  have I1 := I.keep E1.keep I.bare
  refine code_weak (A' := AL (n + 1)) rfl ?_ ?_ rfl rfl (init_fn (n := n + 1) (k := 0) O K.toAccJ I1 hn (Nat.lt_succ_of_lt sz) sz hx hd fun h' tk' hk hr => ⟨rfl, ?_⟩)
  · show 320 + 20 * n + 1 ≤ 320 + 20 * (n + 1); omega
  · show 200 + 200 * n + (Code.builtin "type.__call__" ⟨[.ref 117, .int i0 tk], []⟩).cUnits ≤ 200 + 200 * (n + 1)
    have : (Code.builtin "type.__call__" ⟨[.ref 117, .int i0 tk], []⟩).cUnits ≤ 200 := by show (1 : Nat) ≤ 200; decide
    omega
  have E2 : Ext ⟨hp, g, d, t, os⟩ ⟨h', g, d, tk', os⟩ := ⟨Keep.full fun b o e => hk b o (fun q => by
    have := Heap.lt_size e
    rw [q] at this; exact absurd this (Nat.not_lt.mpr (Nat.le_succ _))) (fun q => by
    have := Heap.lt_size e
    rw [q] at this; exact absurd this (Nat.lt_irrefl _)) (k b o e), rfl⟩
  refine h _ hp.objs.size _ ?_ (size_none hp) (Nat.succ_ne_self _) E2 (I.keep E2.keep I.bare) hr
  cases q : hp.get? (hp.objs.size + 1) with
  | none => rfl
  | some o => exact absurd (Heap.lt_size q) (Nat.not_lt.mpr (Nat.le_succ _))
end Mine
end
section
open PySem PySem.W PySem.Calls PyProof.Rows Builtin Builtin.ObjectAttr
set_option linter.unusedVariables false
set_option maxRecDepth 100000
namespace Mine
set_option genSizeOf false
set_option genInjectivity false
set_option tactic.hygienic false
structure AccM (c : Cx) : Prop extends AccN c where
  keep117 : keepIn c.K (.ref 117) = true
section
variable {c : Cx} {n : Nat} {env : Env} {X X₀ own Z : Addr → Prop} {hA : Heap} {os : OsState} {s s' s₀ : Shared} {σ : List (Str × LV)} {d : D} {ds : List D} {i0 : Int} {pos : Pos} {rest body : List Stmt} {Q : Flow → Shared → Prop}
theorem st_newacc {x : Str} {p xp cp : Pos} {e : Expr} (O : c.Ok) (K : AccM c) (B : Bd c env X₀ own Z hA os s σ) (he : EvD c n (fun a => X₀ a ∨ own a) s (eval e env) (.int i0)) (hn : n + 1 ≤ 20)
    (h : ∀ a dx s', ¬ (X₀ a ∨ own a) → ¬ (X₀ dx ∨ own dx) → a ≠ dx → Bd c env X₀ (fun b => own b ∨ b = a ∨ b = dx) Z hA os s' ((x, .ac a dx [] i0) :: σ) → W c n (execs rest env) Q s')
    (hns : autoParam (noStar [e] = true) tacR) (hk : autoParam (env.scope.kind = .function) tacR) (hx : autoParam (isLC (env.kindOf x) = true) tacR) (hxg : autoParam (env.kindOf "_Accumulator" = some .globalImplicit) tacR) (hgl : autoParam (env.globals = mainGlobals) tacR)
    (hs : autoParam (swapsWith (.Call (.Name "_Accumulator" xp) [e] [] cp) (some (.Name x p)) pos.line env = pure false) tacR) :
    W c n (execs (.Assign [.Name x p] (.Call (.Name "_Accumulator" xp) [e] [] cp) pos :: rest) env) Q s := by
  refine wpAny_execs_cons (wpAny_Assign_Name (Call_Name rfl (wz (ev_global (n := n) (x := "_Accumulator") (pos := xp) B.inv O.acc hk hxg hgl (by decide) s (.refl _) B.inv) (fun f s1 e1 I1 ev => ?_))) hs)
  subst ev
  refine callWith_K (first := []) I1.kin K.keep117 ?_ ?_
  · rw [starEach_plain hns]
    refine wz (EvEs.evl (.cons he .nil) s1 e1 I1) (fun vs s2 e2 I2 zr => ⟨I2.kin, ?_⟩)
    obtain ⟨u, r, ev, ⟨tk, eu⟩, er⟩ := zr
    have er : r = [] := er
    subst er ev eu
    refine acc_make O K.toAccN I2 hn fun a dx s3 fa fd ne E3 I3 hr => ?_
    have EE := (e1.trans e2).trans E3
    have fa0 := ext_none (e1.trans e2) fa
    have fd0 := ext_none (e1.trans e2) fd
    have noA : ¬ (X₀ a ∨ own a) := fun q => by have := B.ex a q; rw [fa0] at this; cases this
    have noD : ¬ (X₀ dx ∨ own dx) := fun q => by have := B.ex dx q; rw [fd0] at this; cases this
    have B1 := B.ext EE I3
    have B2 : Bd c env X₀ (fun b => own b ∨ b = a ∨ b = dx) Z hA os s3 σ := { B1 with
      mine := fun b h => by
        rcases h with h | rfl | rfl
        · exact B.mine b h
        · exact kp_none B.chg fa0
        · exact kp_none B.chg fd0
      ex := fun b h => by
        rcases h with h | h | rfl | rfl
        · exact B1.ex b (.inl h)
        · exact B1.ex b (.inr h)
        · exact hr.ex.1
        · exact hr.ex.2
      far := fun b h => by
        rcases h with h | rfl | rfl
        · exact B.far b h
        · exact hr.1
        · exact hr.2
      dis := fun b h => by
        rcases h with h | rfl | rfl
        · exact B.dis b h
        · exact fun z => noA (.inl z)
        · exact fun z => noD (.inl z)
      ownL := .inl B.ownL
      ownC := fun y b hb => .inl (B.ownC y b hb)
      loc := by
        obtain ⟨vm, F, g⟩ := B.loc
        refine ⟨vm, F.kp (Z := fun uu => False) (.of EE.keep) id (fun uu uu uu q => q), fun y lv q => ?_⟩
        obtain ⟨u, p1, p2⟩ := g y lv q
        refine ⟨u, p1, LV.ok.mv ⟨fun b o uu eb hc => EE.keep.get eb hc, fun b nb sb q => ?_⟩ (fun b o uu uu q1 q2 => EE.keep.get q1 q2) (fun uu z => .inl z) p2⟩
        rcases q with q | q | rfl | rfl
        · exact nb (.inl q)
        · exact nb (.inr q)
        · rw [fa0] at sb; cases sb
        · rw [fd0] at sb; cases sb }
    refine st_name (lv := .ac a dx [] i0) B2 hk hx ⟨rfl, .inr (.inl rfl), .inr (.inr rfl), #[], hr, rfl⟩ (fun s4 B3 => h a dx s4 noA noD ne B3) ?_
    intro b hb
    have hb : b = a ∨ b = dx := mem2 hb
    rcases hb with rfl | rfl
    · exact ⟨fun q => noA (.inr (q ▸ B.ownL)), fun y cc hc q => noA (.inr (q ▸ B.ownC y cc hc))⟩
    · exact ⟨fun q => noD (.inr (q ▸ B.ownL)), fun y cc hc q => noD (.inr (q ▸ B.ownC y cc hc))⟩
  · cases e <;> first | rfl | cases hns
end
end Mine
end
section
open PySem PySem.W PySem.Calls PyProof.Rows Builtin Builtin.ObjectAttr
set_option linter.unusedVariables false
set_option maxRecDepth 100000
namespace Mine
set_option genSizeOf false
set_option genInjectivity false
set_option tactic.hygienic false
structure CmpK (c : Cx) : Prop where
  keep152 : keepIn c.K (.ref 152) = true
  makes : makesIn c.K 152 = true
  ini : findIn c.K (.ref 152) "__init__" = some (some (.ref 142))
  t142 : typeIn c.K (.ref 142) = some (.type "function")
  sa : findIn c.K (.ref 152) "__setattr__" = some (some (.builtin "object.__setattr__"))
  over : plainOver c.K 152 = true
  taker : takerIn c.K 152 "comp_select_list" = some none
theorem cmp_store {c : Cx} {s : Shared} {A : Around} {R : Result → Shared → Prop} {a dx : Addr} {tk : Tok} {v : Value} {n : Nat} (O : c.Ok) (K : CmpK c) (I : Inv c s) (ho : s.heap.get? a = some (instObj 152 dx)) (hd : s.heap.get? dx = some { cls := .type "dict", dict := none, data := .dict #[] n, slots := #[] })
    (h : ∀ h' od', Heap.SameBut dx s.heap h' → od' = Obj.putName "comp_select_list" (PyData.keyHash c.w.params "comp_select_list") (.str "comp_select_list" s.toks) v { cls := .type "dict", dict := none, data := .dict #[] n, slots := #[] } → h'.get? dx = some od' → R (.ok (.ret .none)) { s with heap := h', toks := s.toks + 1 }) :
    codeAny (model PR c.w) A (.call (.builtin "object.__setattr__") ⟨[.ref a, .str "comp_select_list" tk, v], []⟩) R s := by
  have It : InstAt s.heap a (instObj 152 dx) 152 (some { cls := .type "dict", dict := none, data := .dict #[] n, slots := #[] }) := ⟨ho, rfl, rfl, hd⟩
  refine osa_open I.kin It K.over K.taker fun b => ?_
  obtain ⟨cd, hc, hdd⟩ := O.cls152
  have X := I.kin
  refine wpAny_bind (wpAny_pure (wpAny_bind (wpAny_bind (wpAny_loadPart ho (wpAny_bind ((looks_clsIn X hc).here ?_))))))
  rw [hdd]
  refine wpAny_pure (a := some dx) (wpAny_bind (wpAny_pure (wpAny_bind ?_)))
  unfold nsSet
  refine wpAny_bind (wpAny_bind (wpAny_askSetting (wpAny_pure (wpAny_bind (wpAny_mkText (wpAny_bind (wpAny_loadPart hd ?_)))))))
  dsimp only
  rw [if_neg (show ¬ (aRefKeyMayBeTheName (Str.ofString "comp_select_list") #[] = true) by decide)]
  have od'f : (Obj.putName "comp_select_list" (PyData.keyHash c.w.params "comp_select_list") (.str "comp_select_list" s.toks) v { cls := .type "dict", dict := none, data := .dict #[] n, slots := #[] } : Obj).isFreed = false := by rfl
  have D' := Heap.get?_update_self (h := s.heap) (a := dx) (Obj.putName "comp_select_list" (PyData.keyHash c.w.params "comp_select_list") (.str "comp_select_list" s.toks) v) hd od'f
  refine wpAny_updatePart hd ?_
  refine wpAny_bind (wpAny_lookBehind D' (by rfl) ?_)
  exact wpAny_pure (h _ _ (.update ..) rfl D')
theorem cmp_setinit {c : Cx} {n : Nat} {s : Shared} {a dx : Addr} {k : Nat} {v : Value} {Q : Unit → Shared → Prop} (O : c.Ok) (K : CmpK c) (I : Inv c s) (ho : s.heap.get? a = some (instObj 152 dx)) (hd : s.heap.get? dx = some { cls := .type "dict", dict := none, data := .dict #[] k, slots := #[] })
    (h : ∀ h' od', Heap.SameBut dx s.heap h' → h'.get? dx = some od' → od'.cls = .type "dict" → lookIn "comp_select_list" od' = some (some v) → (∀ x : Str, x ≠ "comp_select_list" → lookIn x od' = some none) → Q () { s with heap := h', toks := s.toks + 2 }) :
    W c n (setAttr (.ref a) "comp_select_list" v) Q s := by
  have It : InstAt s.heap a (instObj 152 dx) 152 (some { cls := .type "dict", dict := none, data := .dict #[] k, slots := #[] }) := ⟨ho, rfl, rfl, hd⟩
  refine set_plain I.kin It K.sa (cmp_store (s := { s with toks := s.toks + 1 }) O K (I.toks _) ho hd fun h' od' hs e hg => ?_)
  refine h h' od' hs hg (by rw [e]; rfl) ?_ ?_
  · rw [e]; rfl
  · intro x hx
    rw [e]
    have q : ∀ (hh : Int) (t : Tok), lookIn x { cls := .type "dict", dict := none, data := .dict #[⟨hh, .str (Str.ofString "comp_select_list") t, v⟩] (k + 1), slots := #[] } = some none := fun hh t => by
      have q2 : (Value.str (Str.ofString "comp_select_list") t).isStr x = false := by
        simp only [Value.isStr]
        exact beq_eq_false_iff_ne.mpr fun e => hx e.symm
      unfold lookIn
      simp only [List.find?_cons, q2, List.find?_nil]
      rfl
    exact q _ _
theorem cinit_fn {c : Cx} {n : Nat} {s : Shared} {a dx : Addr} {k : Nat} {v : Value} {R : Result → Shared → Prop} (O : c.Ok) (K : CmpK c) (I : Inv c s) (hn : n ≤ 20) (fd : @LT.lt Nat _ 256 dx) (ho : s.heap.get? a = some (instObj 152 dx)) (hd : s.heap.get? dx = some { cls := .type "dict", dict := none, data := .dict #[] k, slots := #[] })
    (h : ∀ h' od' tk, (∀ b o, b ≠ dx → s.heap.get? b = some o → h'.get? b = some o) → h'.get? dx = some od' → od'.cls = .type "dict" → lookIn "comp_select_list" od' = some (some v) → (∀ x : Str, x ≠ "comp_select_list" → lookIn x od' = some none) → R (.ok (.ret .none)) { s with heap := h', toks := tk }) : codeAny (model PR c.w) (AL n) (.call (.ref 142) ⟨[.ref a, v], []⟩) R s := by
  obtain ⟨o, kV, doc, pm, an, ct, h1', h2, h3, oc, cvs, ctk, h4, h5, h6, h7⟩ := I.fn R_cinit (inF 7 rfl)
  refine ks_codeAny_call_defAt (fd := R_cinit.data kV doc pm an ct) (body := bodyOf R_cinit.st) (binds := [(("self" : Str), .ref a), (("comp_select_list" : Str), v)]) (by show 320 + 20 * n < 1000; omega) h1' h3 I.lim ⟨R_cinit.cd, oc, cvs, ctk, rfl, h4, h6, h7⟩ rfl (.of_eq rfl) ?_ ?_ (fun h₀ hns hk₀ => ?_) rfl rfl rfl
  · show ∀ x ∈ (scOf R_cinit.st).names, x.2 ≠ .cell
    decide
  · refine al ?_ (al ?_ al0) <;> rfl
  have K0 : Keep s.heap h₀ := Keep.full hk₀
  have I1 : Inv c { s with heap := h₀, toks := s.toks + 2 } := I.keep K0 I.bare
  refine ks_wpAt_execs_cons (ks_wpAt_Assign_Attr ?_ (by rfl))
  refine wpAt_of_wpAny ?_
  refine wpAny_Name (x := "comp_select_list") ?_ (by decide)
  refine wpAny_loadName_local (v := v) ?_ ?_ hns ?_ ?_
  · rfl
  · rfl
  · rfl
  refine wpAny_Name (x := "self") ?_ (by decide)
  refine wpAny_loadName_local (v := .ref a) ?_ ?_ hns ?_ ?_
  · rfl
  · rfl
  · rfl
  refine wpAny_mono (wp_weak (A' := AL (n + 1)) rfl (by show 320 + 20 * n + 1 ≤ 320 + 20 * (n + 1); omega) (by show 200 + 200 * n + 3 ≤ 200 + 200 * (n + 1); omega) rfl rfl
    (cmp_setinit (n := n + 1) (k := k) (Q := fun uu s' => ∃ h1 od1, s' = { s with heap := h1, toks := s.toks + 4 } ∧ Heap.SameBut dx h₀ h1 ∧ h1.get? dx = some od1 ∧ od1.cls = .type "dict" ∧ lookIn "comp_select_list" od1 = some (some v) ∧ ∀ x : Str, x ≠ "comp_select_list" → lookIn x od1 = some none) O K I1 (hk₀ _ _ ho) (hk₀ _ _ hd) fun h1 od1 hs1 hg1 hc1 hl1 hl2 => ⟨h1, od1, rfl, hs1, hg1, hc1, hl1, hl2⟩)) (fun uu s1 zp => ?_) fun uu uu z => z.elim
  obtain ⟨h1, od1, es, hs1, hg1, hc1, hl1, hl2⟩ := zp
  subst es
  refine wpAt_of_wpAny (wpAny_execs_nil ?_)
  exact h _ od1 _ (fun b o nb e => (hs1.2 b nb).trans (hk₀ b o e)) hg1 hc1 hl1 hl2
theorem CmpL.of_tr {h : Heap} {X : Addr → Prop} : ∀ {es : List (Int × Int)} {vs : List Value}, TrL h X (es.map prD) vs → CmpL h X es vs
  | [], u1, e => e
  | p :: es, u1, h0 => by
    obtain ⟨v, r, e, hp, tl⟩ := h0
    obtain ⟨a, us, ev, na, ht, tp⟩ := hp
    obtain ⟨t1, t2, e1⟩ := TrL.pair (a := p.1) (b := p.2) tp
    subst ev
    exact ⟨a, r, t1, t2, e, na, e1 ▸ ht, CmpL.of_tr tl⟩
section
variable {c : Cx} {n : Nat} {env : Env} {X X₀ own Z : Addr → Prop} {hA : Heap} {os : OsState} {s s' s₀ : Shared} {σ : List (Str × LV)} {d : D} {ds : List D} {i0 : Int} {pos : Pos} {rest body : List Stmt} {Q : Flow → Shared → Prop}
theorem ev_mkcmp {xp : Pos} {e : Expr} {es : List (Int × Int)} (O : c.Ok) (K : CmpK c) (hX : ∀ a, X a → (s.heap.get? a).isSome = true) (Iv : Inv c s) (he : EvD c n X s (eval e env) (.lst (es.map prD))) (hn : n + 1 ≤ 20)
    (hns : autoParam (noStar [e] = true) tacR) (hk : autoParam (env.scope.kind = .function) tacR) (hxg : autoParam (env.kindOf "TupleComp" = some .globalImplicit) tacR) (hgl : autoParam (env.globals = mainGlobals) tacR) :
    EvD c n X s (eval (.Call (.Name "TupleComp" xp) [e] [] pos) env) (.cmp es) := fun s0 k0 I0 => by
  refine Call_Name rfl (wz (ev_global (n := n) (x := "TupleComp") (pos := xp) Iv O.comp hk hxg hgl (by decide) s0 k0 I0) (fun f s1 e1 I1 ev => ?_))
  subst ev
  refine callWith_K (first := []) I1.kin K.keep152 ?_ ?_
  · rw [starEach_plain hns]
    refine wz (EvEs.evl (.cons he .nil) s1 (k0.trans e1) I1) (fun vs s2 e2 I2 zr => ⟨I2.kin, ?_⟩)
    obtain ⟨u, r, ev, ⟨l, us, eu, nl, hl, tl⟩, er⟩ := zr
    have er : r = [] := er
    subst er ev eu
    obtain ⟨hp, g, dr, t, os⟩ := s2
    refine wpAny_call (make_core (makes_of I2.kin K.makes) (looks_findIn I2.kin K.ini) (fun self => bind_fn I2.kin self K.t142) (.inl rfl) ?_)
    have k : ∀ b o, hp.get? b = some o → ((hp.push emptyDict).push (instObj 152 hp.objs.size)).get? b = some o := fun b o e => Heap.get?_push_of_some _ (Heap.get?_push_of_some _ e)
    have E1 : Ext ⟨hp, g, dr, t, os⟩ ⟨(hp.push emptyDict).push (instObj 152 hp.objs.size), g, dr, t, os⟩ := ⟨Keep.full k, rfl⟩
    have sz : @LT.lt Nat _ 256 hp.objs.size := I2.size
    have hx : ((hp.push emptyDict).push (instObj 152 hp.objs.size)).get? (hp.objs.size + 1) = some (instObj 152 hp.objs.size) := by heap_get
    have hd : ((hp.push emptyDict).push (instObj 152 hp.objs.size)).get? hp.objs.size = some { cls := .type "dict", dict := none, data := .dict #[] 0, slots := #[] } := Heap.get?_push_of_some _ (Heap.get?_push_size _ rfl)
    have I3 := I2.keep E1.keep I2.bare
    refine code_weak (A' := AL (n + 1)) rfl ?_ ?_ rfl rfl (cinit_fn (n := n + 1) (k := 0) O K I3 hn sz hx hd fun h' od' tk' hk hg hc hl1 hl2 => ⟨rfl, ?_⟩)
    · show 320 + 20 * n + 1 ≤ 320 + 20 * (n + 1); omega
    · show 200 + 200 * n + 1 ≤ 200 + 200 * (n + 1); omega
    have n2 : hp.get? (hp.objs.size + 1) = none := by
      cases q : hp.get? (hp.objs.size + 1) with
      | none => rfl
      | some o => exact absurd (Heap.lt_size q) (Nat.not_lt.mpr (Nat.le_succ _))
    have E2 : Ext ⟨hp, g, dr, t, os⟩ ⟨h', g, dr, tk', os⟩ := ⟨Keep.full fun b o e => hk b o (fun q => by
      have := Heap.lt_size e
      rw [q] at this; exact absurd this (Nat.lt_irrefl _)) (k b o e), rfl⟩
    have nX : ∀ b, hp.get? b = none → ¬ X b := fun b e q => by
      have := ((k0.trans e1).trans e2).keep.there (hX b q)
      rw [show (⟨hp, g, dr, t, os⟩ : Shared).heap.get? b = none from e] at this; cases this
    refine ⟨(e1.trans e2).trans E2, I2.keep E2.keep I2.bare, hp.objs.size + 1, rfl, hp.objs.size, l, us, od', nX _ n2, nX _ (size_none hp), nl, hk _ _ (Nat.succ_ne_self _) hx, hg, hc, hl1, hl2 _ (by decide), list_obj hl fun o q1 q2 => E2.keep.get q1 q2, ?_⟩
    exact CmpL.of_tr (TrL.ext tl E2)
  · cases e <;> first | rfl | cases hns
end
end Mine
end
section
open PySem PySem.W PySem.Calls PyProof.Rows
set_option linter.unusedVariables false
set_option maxRecDepth 100000
namespace Mine
set_option genSizeOf false
set_option genInjectivity false
set_option tactic.hygienic false
theorem ne_none_builtin (i : String) : (Value.builtin i == Value.none) = false := by rfl
section
variable {c : Cx} {n : Nat} {env : Env} {X X₀ own Z : Addr → Prop} {hA : Heap} {os : OsState} {s s' s₀ : Shared} {σ : List (Str × LV)} {d : D} {ds : List D} {i0 : Int} {pos : Pos} {rest body : List Stmt} {Q : Flow → Shared → Prop}
theorem acc_pyIter {A : Around} {E : Value → Shared → Prop} {Qv : Value → Shared → Prop} {a dx : Addr} {vs : Array Value} {i0 : Int} (K : AccT c) (I : Inv c s) (h : AccRaw s.heap a dx vs i0)
    (hq : Qv (.ref s.heap.objs.size) { s with heap := s.heap.push { cls := .type "list_iterator", data := .fields #[.ref a, .int 0 0] } }) : wpAny (model PR c.w) A (pyIter (.ref a)) Qv E s := by
  obtain ⟨m, od, It, _⟩ := h.inst
  have look : ∀ {Qo : Option Value → Shared → Prop}, Qo (some (.builtin "list.__iter__")) s → wpAny (model PR c.w) A (specialOf (.ref a) "__iter__") Qo E s := fun hq => by
    unfold specialOf
    exact wpAny_bind (It.type.here ((looks_findIn I.kin K.iter).here hq))
  unfold pyIter
  refine wpAny_bind (look ?_)
  dsimp only
  refine wpAny_bind (m := callSpecialIfBoundUnlessNone? (.ref a) "__iter__" _) ?_
  unfold callSpecialIfBoundUnlessNone? bindSpecialIfBound?
  dsimp only
  refine wpAny_holding (wpAny_bind (wpAny_bind (look ?_)))
  dsimp only
  rw [slot_list_iter.bind]
  have made : wpAny (model PR c.w) A (call (.builtin "list.__iter__") [.ref a]) (fun v s' => v = .ref s.heap.objs.size ∧ s' = { s with heap := s.heap.push { cls := .type "list_iterator", data := .fields #[.ref a, .int 0 0] } }) E s := by
    refine call_accB I h (.inl (by decide +kernel)) (nm := "__iter__") (by decide +kernel) slot_list_iter.plain entry_list_iter K.sub (args_list_iter _) ?_
    show wpAny _ _ (do ret (← newFields "list_iterator" [.ref a, rawInt 0])) _ _ s
    exact wpAny_bind (wpAny_newObj_type (wpAny_pure ⟨_, rfl, rfl, rfl⟩))
  refine wpAny_bind (wpAny_askSetting (wpAny_ite ?_))
  have fin : ∀ {t : Option Value → Sem Value} {refuse : Sem Value}, (∀ s', s' = { s with heap := s.heap.push { cls := .type "list_iterator", data := .fields #[.ref a, .int 0 0] } } → wpAny (model PR c.w) A (t (some (.ref s.heap.objs.size))) Qv E s') →
      wpAny (model PR c.w) A (if (Value.builtin "list.__iter__" == Value.none) = true then (refuse >>= fun v => pure (some v)) else (call (.builtin "list.__iter__") [.ref a] >>= fun v => pure (some v))) (fun r s' => wpAny (model PR c.w) A (t r) Qv E s') E s := fun ht => by
    rw [ne_none_builtin, if_neg Bool.false_ne_true]
    exact wpAny_bind (wpAny_mono made (fun v s' zp => by obtain ⟨e1, e2⟩ := zp; exact wpAny_pure (by subst e1; exact ht s' e2)) fun uu uu z => z)
  have tail : ∀ s', s' = { s with heap := s.heap.push { cls := .type "list_iterator", data := .fields #[.ref a, .int 0 0] } } → wpAny (model PR c.w) A (do
      match ← specialOf (.ref s.heap.objs.size) "__next__" with
      | none => rule "iter.non-iterator"; raiseError "TypeError" s!"iter() returned non-iterator of type '{← typeNameOf (.ref s.heap.objs.size)}'"
      | some _ => pure (Value.ref s.heap.objs.size)) Qv E s' := fun s' e => by
    subst e
    exact wpAny_bind (wpAny_specialOf (T := "list_iterator") ⟨_, Heap.get?_push_size _ rfl, rfl⟩ slot_listiter_next.lookup (wpAny_pure hq))
  split
  · exact wpAny_bind (wpAny_pure (wpAny_pure (fin tail)))
  · exact wpAny_tryCatch (wpAny_bind (wpAny_pure (wpAny_pure (fin tail))))
theorem it_item {A : Around} {E : Value → Shared → Prop} {it l : Addr} {i nl : Nat} {items : Array Value} {ol : Obj} {x : Value} {Qo : Option Value → Shared → Prop} (hit : s.heap.IsListIter it l i) (hol : s.heap.get? l = some ol) (hdl : ol.data = .seq items nl) (hx : items[i]? = some x)
    (hQ : ∀ h', h'.IsListIter it l (i + 1) → Heap.SameBut it s.heap h' → Qo (some x) { s with heap := h' }) : wpAny (model PR c.w) A (pyNext (.ref it)) Qo E s := by
  obtain ⟨o, ho, hc, hd⟩ := id hit
  unfold pyNext
  refine wpAny_bind (wpAny_attempt (wpAny_callSpecial?_slot (name := Str.ofString "__next__") hit.typeIs slot_listiter_next (wpAny_call_entry slot_listiter_next hit.typeIs entry_listiter_next ?_ (args_listiter_next _))))
  refine wpAny_bind (m := field (.ref it) 0) (wpAny_field ho hd (x := .ref l) rfl ?_)
  refine (if_neg (c := (Value.ref l == Value.none) = true) Bool.false_ne_true).symm ▸ ?_
  refine wpAny_bind (m := field (.ref it) 1) (wpAny_field ho hd (x := .int i 0) rfl ?_)
  refine wpAny_bind (m := seqItems? (.ref l)) (wpAny_seqItems hol hdl ?_)
  dsimp only
  rw [Int.toNat_natCast, hx]
  dsimp only
  have up : Obj.data (Obj.mapFields (·.setIfInBounds 1 (rawInt ((i : Int) + 1))) o) = .fields #[.ref l, .int ((i + 1 : Nat) : Int) 0] := by
    rw [Obj.data_mapFields hd]; simp [rawInt]
  refine wpAny_bind (wpAny_setField ho hd (by simp) (wpAny_pure ⟨x, rfl, wpAny_pure (hQ _ ⟨_, Heap.get?_update_self _ ho (Obj.isFreed_of_fields up), (Obj.cls_mapFields ..).trans hc, up⟩ (Heap.SameBut.update ..))⟩))
theorem it_end {A : Around} {E : Value → Shared → Prop} {it l : Addr} {i nl : Nat} {items : Array Value} {ol : Obj} {Qo : Option Value → Shared → Prop} (hh : A.handled = none) (hit : s.heap.IsListIter it l i) (hol : s.heap.get? l = some ol) (hdl : ol.data = .seq items nl) (hx : items[i]? = none)
    (hQ : ∀ h', Heap.ExtBut it s.heap h' → Qo none { s with heap := h' }) : wpAny (model PR c.w) A (pyNext (.ref it)) Qo E s := by
  obtain ⟨o, ho, hc, hd⟩ := id hit
  have hh1 : A.in1.handled = none := hh
  unfold pyNext
  refine wpAny_bind (wpAny_attempt (wpAny_callSpecial?_slot (name := Str.ofString "__next__") hit.typeIs slot_listiter_next (wpAny_call_entry slot_listiter_next hit.typeIs entry_listiter_next ?_ (args_listiter_next _))))
  refine wpAny_bind (m := field (.ref it) 0) (wpAny_field ho hd (x := .ref l) rfl ?_)
  refine (if_neg (c := (Value.ref l == Value.none) = true) Bool.false_ne_true).symm ▸ ?_
  refine wpAny_bind (m := field (.ref it) 1) (wpAny_field ho hd (x := .int i 0) rfl ?_)
  refine wpAny_bind (m := seqItems? (.ref l)) (wpAny_seqItems hol hdl ?_)
  dsimp only
  rw [Int.toNat_natCast, hx]
  dsimp only
  refine wpAny_bind (wpAny_rule (wpAny_bind (wpAny_setField ho hd (by simp) (wpAny_bind (m := newExc (.type "StopIteration") []) ?_))))
  unfold newExc
  unfold newTuple
  refine wpAny_bind (wpAny_newObj_type (wpAny_bind (m := firstArgMember _ _) (wpAny_of_eq (a := Value.none) (by first | rfl | (simp only [firstArgMember]; rfl)) (wpAny_newObj_type ?_ (by size_fits)))) (by size_fits))
  unfold raiseNew
  dsimp only
  refine wpAny_bind (wpAny_handled ?_)
  rw [hh1]
  refine wpAny_bind (wpAny_pure (wpAny_throw ?_))
  refine wpAny_bind (wpAny_isInstance (T := "StopIteration") (b := true) ⟨_, Heap.get?_push_size _ rfl, rfl⟩ isSubtype_stop ?_)
  exact wpAny_pure (hQ _ (((Heap.SameBut.update ..).extBut.push _).push _))

noncomputable def JAcc (it : Addr) (X : Addr → Prop) (rest : List D) (s : Shared) : Prop := ∃ i l dx vs i0, ¬ X l ∧ ¬ X dx ∧ s.heap.IsListIter it l i ∧ AccRaw s.heap l dx vs i0 ∧ TrL s.heap X rest (vs.toList.drop i)
theorem AccRaw.mv {h h' : Heap} {X X' : Addr → Prop} {a dx : Addr} {vs : Array Value} {i0 : Int} (x : AccRaw h a dx vs i0) (k : Mv h h' X X') (n1 : ¬ X a) (n2 : ¬ X dx) : AccRaw h' a dx vs i0 := x.keep (k.get a · n1) (k.get dx · n2)
theorem iter_acc {it : Addr} (far : @LT.lt Nat _ 256 it) : IterOk c n it (fun a => a = it) (JAcc it) where
  far := fun a e => e ▸ far
  next := fun X d rest s target hX uu uu zp I => by
    obtain ⟨i, l, dx, vs, i0, nl, nd, hit, hr, t⟩ := zp
    obtain ⟨v, r, e, t1, t2⟩ := t
    have hv : vs[i]? = some v := by
      have := congrArg (·[0]?) e
      simpa using this
    obtain ⟨_, _, ⟨m, hl⟩, _⟩ := id hr
    refine it_item hit hl rfl hv fun h' hit' hs => ⟨v, rfl, ?_⟩
    have kp : Kp (fun a => a = it) s.heap h' := .same hs rfl
    have mv : Mv s.heap h' X X := ⟨fun a o na e hc => kp.get e (fun q => na (hX a q)) hc, fun uu n uu => n⟩
    obtain ⟨o, ho, hc, hd⟩ := id hit'
    refine letGo_plain (T := "list_iterator") ho hc (by decide) ⟨I.kp kp (fun a e => e ▸ far) I.bare, rfl, kp, fun a e => by rw [e]; exact (by rw [show _ = some o from ho]; rfl), ⟨i + 1, l, dx, vs, i0, nl, nd, hit', hr.mv mv nl nd, ?_⟩, Tr.mv mv d v t1⟩
    have : vs.toList.drop (i + 1) = r := by
      have := congrArg List.tail e
      simpa [List.tail_drop] using this
    rw [this]; exact TrL.mv mv _ _ t2
  stop := fun X s zp I => by
    obtain ⟨i, l, dx, vs, i0, nl, nd, hit, hr, t⟩ := zp
    have hv : vs[i]? = none := by
      have t' : vs.toList.drop i = [] := t
      have := congrArg List.length t'
      simp at this
      exact Array.getElem?_eq_none (by omega)
    obtain ⟨_, _, ⟨m, hl⟩, _⟩ := id hr
    refine it_end rfl hit hl rfl hv fun h' hs => ?_
    have kp : Kp (fun a => a = it) s.heap h' := .but hs rfl
    exact ⟨rfl, I.kp kp (fun a e => e ▸ far) I.bare, rfl, kp⟩
  keep := fun X X' rest s s' zp mv ki => by
    obtain ⟨i, l, dx, vs, i0, nl, nd, hit, hr, t⟩ := zp
    exact ⟨i, l, dx, vs, i0, mv.open_ l nl hr.ex.1, mv.open_ dx nd hr.ex.2, listIter_kp hit fun o e hc => ki it o rfl e hc, hr.mv mv nl nd, TrL.mv mv _ _ t⟩
theorem ec_acc {iter : Sem Value} (K : AccT c) (h : EvD c n X s₀ iter (.acc ds i0)) : EvC c n X s₀ iter ds := fun s e I => by
  refine wz (h s e I) (fun x s1 e1 I1 t => ?_)
  obtain ⟨a, dx, vs, rfl, na, nd, hr, t⟩ := t
  refine acc_pyIter K I1 hr ?_
  have E := ext_push s1 { cls := .type "list_iterator", data := .fields #[.ref a, .int 0 0] }
  have mv : Mv s1.heap (s1.heap.push { cls := .type "list_iterator", data := .fields #[.ref a, .int 0 0] }) X (fun b => X b ∨ b = s1.heap.objs.size) := ⟨fun b o uu e hc => E.keep.get e hc, fun b nb sb q => by
    rcases q with q | q
    · exact nb q
    · subst q
      obtain ⟨o', ho'⟩ := Option.isSome_iff_exists.mp sb
      exact absurd (Heap.lt_size ho') (Nat.lt_irrefl _)⟩
  refine ⟨e1.trans E, I1.keep E.keep I1.bare, s1.heap.objs.size, fun b => b = s1.heap.objs.size, JAcc s1.heap.objs.size, rfl, fun b hb => ⟨?_, ?_⟩, iter_acc I1.size, ⟨0, a, dx, vs, i0, mv.open_ a na hr.ex.1, mv.open_ dx nd hr.ex.2, ?_, hr.mv mv na nd, ?_⟩, fun X r s Q zp hq => by obtain ⟨i, l, dx, vs, i0, _, _, hit, _⟩ := zp; exact wpAny_pyIter_listiter hit hq⟩
  · subst hb
    exact ext_none e1 (size_none _)
  · subst hb
    rw [show _ = some _ from Heap.get?_push_size _ rfl]; rfl
  · exact ⟨_, Heap.get?_push_size _ rfl, rfl, rfl⟩
  · rw [List.drop_zero]
    exact TrL.mv mv _ _ t
end
end Mine
end
section
open PySem PySem.W PySem.Calls PyProof.Rows
set_option linter.unusedVariables false
set_option maxRecDepth 100000
namespace Mine
set_option genSizeOf false
set_option genInjectivity false
set_option tactic.hygienic false
theorem args_sum2 (a b : Value) : argsOk "sum" ⟨[a, b], []⟩ := by unfold argsOk; kernel_rfl
section
variable {prog : Program} {w : World} {A : Around} {E : Value → Shared → Prop} {s : Shared} {R : Result → Shared → Prop} {I : Addr} {fp wr : List Addr} {G : Array GenState → Array GenState → Prop} {n : Nat} {P : Nat → Value → Prop} {St : Nat → Shared → Prop}
theorem walks_after (W : WalksS prog w A I fp wr G n P St) (P0 : Value → Prop) :
    WalksS prog w A I fp wr G (n + 1) (fun j v => match j with | 0 => P0 v | j + 1 => P j v) (fun j s => match j with | 0 => False | j + 1 => St j s) where
  sub := W.sub
  grefl := W.grefl
  gtrans := W.gtrans
  frame := fun i s h' tk st a b => by
    cases i with
    | zero => exact st.elim
    | succ i => exact W.frame i s h' tk st a b
  item := fun i s Q E hi st hQ => by
    cases i with
    | zero => exact st.elim
    | succ i => exact W.item i s Q E (by omega) st hQ
  done := fun s Q E st hQ => W.done s Q E st hQ
  self := fun i s Q E st hQ => by
    cases i with
    | zero => exact st.elim
    | succ i => exact W.self i s Q E st hQ
noncomputable def startVal (i0 : Int) (val : Nat → Int) : Nat → Int
  | 0 => i0
  | j + 1 => val j
theorem preSum_start (i0 : Int) (val : Nat → Int) : ∀ n, preSum (startVal i0 val) (n + 1) = i0 + preSum val n
  | 0 => by simp [preSum, startVal]
  | n + 1 => by
    rw [preSum, preSum_start i0 val n]
    show i0 + preSum val n + val n = i0 + (preSum val n + val n)
    omega
theorem call_sum_start {i0 : Int} {t : Tok} {val : Nat → Int} {Q : Value → Shared → Prop} (W : WalksS prog w A.in1 I fp wr G n P St) (hst : St 0 s) (hfp : ∀ b ∈ fp, b < s.heap.objs.size) (hval : ∀ i v, P i v → ∃ t, v = .int (val i) t) (hi : 0 ≤ i0) (hi2 : i0 < 2 ^ 40)
    (hQ : ∀ s' t', Moved wr G s s' → Q (.int (i0 + preSum val n) t') s') : wpAny (model prog w) A (call (.builtin "sum") [.ref I, .int i0 t]) Q E s := by
  refine call_function_tree F.kind_sum F.plain_sum F.entry_sum (args_sum2 _ _) ?_
  unfold Builtin.«sum»
  have hl : ¬ ((⟨[.ref I, .int i0 t], []⟩ : Args).pos.length + (⟨[.ref I, .int i0 t], []⟩ : Args).kw.length > 2) := by show ¬ (2 > 2); decide
  rw [if_neg hl]
  refine wpAny_bind (wpAny_of_eq (show Builtin.Builtins.bindParams "sum" ["start"] 0 ⟨[.int i0 t], []⟩ = pure [some (.int i0 t)] from rfl) ?_)
  refine wpAny_bind (W.self 0 s _ _ hst ?_)
  have p40 : (2 : Int) ^ 40 = 1099511627776 := by decide
  have fit : (decide (-(2 ^ 63) ≤ i0) && decide (i0 < 2 ^ 63)) = true := by
    have p63 : (2 : Int) ^ 63 = 9223372036854775808 := by decide
    rw [Bool.and_eq_true]; exact ⟨decide_eq_true (by omega), decide_eq_true (by omega)⟩
  dsimp only
  rw [if_pos]
  rotate_left
  · exact fit
  refine wpAny_bind (wpAny_rule (wpAny_bind (wpAny_mkInt (wpAny_bind (wpAny_pure ?_)))))
  rw [List.forIn_cons]
  refine wpAny_bind (wpAny_bind (wpAny_bind (wpAny_isInstance (T := "int") (b := false) (typeIs_int _ _ _) PySem.sub_int_str ?_)))
  rw [if_neg Bool.false_ne_true]
  refine wpAny_pure ?_
  dsimp only
  rw [List.forIn_cons]
  refine wpAny_bind (wpAny_bind (wpAny_isInstance (T := "int") (b := false) (typeIs_int _ _ _) PySem.sub_int_bytes ?_))
  rw [if_neg Bool.false_ne_true]
  refine wpAny_pure ?_
  dsimp only
  rw [List.forIn_cons]
  refine wpAny_bind (wpAny_bind (wpAny_isInstance (T := "int") (b := false) (typeIs_int _ _ _) PySem.sub_int_bytearray ?_))
  rw [if_neg Bool.false_ne_true]
  refine wpAny_pure ?_
  dsimp only
  rw [List.forIn_nil]
  refine wpAny_pure ?_
  refine wpAny_bind (wpAny_newObj_type ?_)
  have hSf : s.heap.objs.size ∉ fp := fun hm => Nat.lt_irrefl _ (hfp _ hm)
  have W' := walks_after W (fun v => ∃ t, v = .int i0 t)
  refine wpAny_pure ⟨plainId_quiet F.plain_sum_loop _, codeAny_sum_loopAnyS W' (startVal i0 val) (fun i v h => ?_) s.heap.objs.size hSf n 1 _ s.toks 0 0 (.inl rfl) (Nat.add_sub_cancel ..) (Nat.succ_le_succ (Nat.zero_le _))
    (W.frame 0 s _ _ hst (Nat.le_succ _) fun b uu o e => Heap.get?_push_of_some _ e) ?_ fun s' t' hm => ?_⟩
  · cases i with
    | zero => exact h
    | succ i => exact hval i v h
  · rw [preSum_start]
    simp only [preSum, Int.add_zero]
    exact Heap.get?_push_size _ rfl
  · rw [preSum_start]
    exact hQ s' t' (hm.drop_new (Nat.le_succ _))
end
end Mine
end
section
open PySem PySem.W PySem.Calls PyProof.Rows
set_option linter.unusedVariables false
set_option maxRecDepth 100000
namespace Mine
set_option genSizeOf false
set_option genInjectivity false
set_option tactic.hygienic false
noncomputable abbrev Pc := Str × Str
noncomputable def pcD (p : Pc) : D := .tup [.str p.1, .str p.2]
noncomputable def PcAt (ps : List Pc) (i : Nat) (vals : Array Value) : Prop := ∃ p t u, ps[i]? = some p ∧ vals = #[.str p.1 t, .str p.2 u]
noncomputable def addrOf : Value → Addr
  | .ref a => a
  | _ => 0
noncomputable def AccSt (it a dx : Addr) (us : Array Value) (ps : List Pc) (i : Nat) (h : Heap) : Prop :=
  h.IsListIter it a i ∧ (∃ m, h.get? a = some (accO dx us m)) ∧ us.size = ps.length ∧ ∀ (j : Nat) (p : Pc), ps[j]? = some p → ∃ (T : Addr) (t u : Tok), us[j]? = some (Value.ref T) ∧ T ≠ it ∧ h.IsTuple T #[.str p.1 t, .str p.2 u]
theorem pcs_get {h : Heap} {X : Addr → Prop} : ∀ {ps : List Pc} {vs : List Value}, TrL h X (ps.map pcD) vs → ∀ (j : Nat) (p : Pc), ps[j]? = some p → ∃ (T : Addr) (t u : Tok), vs[j]? = some (Value.ref T) ∧ h.IsTuple T #[.str p.1 t, .str p.2 u]
  | [], u1, u2, j, p, e => by simp at e
  | q :: ps, vs, zp, j, p, e => by
    obtain ⟨v, r, ev, t1, t2⟩ := zp
    subst ev
    cases j with
    | zero =>
      simp at e; subst e
      obtain ⟨T, us, rfl, _, ht, v1, r1, e1, ⟨t, q1⟩, v2, r2, e2, ⟨u, q2⟩, e3⟩ := t1
      have e3 : r2 = [] := e3
      subst e3 e2 q1 q2
      have : us = #[.str q.1 t, .str q.2 u] := Array.toList_inj.mp e1
      subst this
      exact ⟨T, t, u, rfl, ht.is⟩
    | succ j => exact pcs_get t2 j p (by simpa using e)
section
variable {c : Cx} {it a dx : Addr} {us : Array Value} {ps : List Pc}
theorem acc_walk (ne : a ≠ it) (A : Around) (hh : A.handled = none) : WalksU PR c.w A it (it :: a :: us.toList.map addrOf) [it] ps.length (PcAt ps) (AccSt it a dx us ps) (fun i T h => AccSt it a dx us ps (i + 1) h ∧ T ≠ it) where
  sub := fun b hb => by simp at hb; simp [hb]
  frame := fun i h h' st k => by
    obtain ⟨hit, ⟨m, ha⟩, hz, hall⟩ := st
    refine ⟨listIter_kp hit fun o e uu => k it (by simp) o e, ⟨m, k a (by simp) _ ha⟩, hz, fun j p hp => ?_⟩
    obtain ⟨T, t, u, h1, h2, ⟨o, ho, r⟩⟩ := hall j p hp
    refine ⟨T, t, u, h1, h2, o, k T ?_ o ho, r⟩
    refine List.mem_cons_of_mem _ (List.mem_cons_of_mem _ (List.mem_map.mpr ⟨.ref T, ?_, rfl⟩))
    exact Array.mem_toList_iff.mpr (Array.mem_of_getElem? h1)
  item := fun i s Q E hi st hQ => by
    obtain ⟨hit, ⟨m, ha⟩, hz, hall⟩ := st
    have hp : ps[i]? = some ps[i] := List.getElem?_eq_getElem hi
    obtain ⟨T, t, u, h1, h2, ht⟩ := hall i _ hp
    refine it_item hit ha rfl h1 fun h' hit' hs => ?_
    have tup : ∀ {T : Addr} {vals : Array Value}, T ≠ it → s.heap.IsTuple T vals → h'.IsTuple T vals := fun n zp => by obtain ⟨o, ho, r⟩ := zp; exact ⟨o, (hs.2 _ n).trans ho, r⟩
    exact hQ T _ h' s.toks ⟨_, t, u, hp, rfl⟩ (tup h2 ht) ⟨⟨hit', ⟨m, (hs.2 a ne).trans ha⟩, hz, fun j p hp => let ⟨T, t, u, q1, q2, q3⟩ := hall j p hp; ⟨T, t, u, q1, q2, tup q2 q3⟩⟩, h2⟩ fun b o nb e => (hs.2 b (by simpa using nb)).trans e
  go := fun elts k pos i T s Q E hm hq => by
    obtain ⟨⟨o, ho, hc, hd⟩, _⟩ := id hm.1
    exact letGo_plain (T := "list_iterator") ho hc (by decide) (hq s.heap hm.1 fun uu uu uu e => e)
  apart := fun i T h hm q => hm.2 (by simpa using q)
  done := fun s Q E st hQ => by
    obtain ⟨hit, ⟨m, ha⟩, hz, hall⟩ := st
    exact it_end hh hit ha rfl (Array.getElem?_eq_none (by omega)) fun h' hs => hQ h' s.toks fun b o nb e => hs b o (by simpa using nb) e
  self := fun i s Q E st hQ => wpAny_pyIter_listiter st.1 hQ
end
end Mine
end
section
open PySem PySem.W PySem.Calls PyProof.Rows
set_option linter.unusedVariables false
set_option maxRecDepth 100000
namespace Mine
set_option genSizeOf false
set_option genInjectivity false
set_option tactic.hygienic false
section
variable {c : Cx} {n : Nat} {env : Env} {X X₀ own Z : Addr → Prop} {hA : Heap} {os : OsState} {s s' s₀ : Shared} {σ : List (Str × LV)} {d : D} {ds : List D} {i0 : Int} {pos : Pos} {rest body : List Stmt} {Q : Flow → Shared → Prop}
theorem ev_gcode {cda P : Addr} {q : Str} {scope : Scope} (hc : env.code = .ref cda) (hd : codeHdIn c.K cda P = true) (hP : P ∈ tabs) : Ev c n s (genexprCode env pos q scope) (fun uu uu => True) := fun s1 e I => by
  obtain ⟨ps, hps⟩ := I.tab P hP
  have hd := codeHd_of_K I.kin hd
  have hps : s1.heap.get? P = some (tabObj ps.vs) := hps
  have hok := hd.code hps ps.ok
  have htab := hd.tab hps
  cases q : codeAmong pos ps.vs.toList with
  | some c' => exact wpAny_genexprCode_hit hc hok q ⟨.refl _, I, trivial⟩
  | none =>
    refine wpAny_genexprCodeX hc hok htab q fun c' h' tk hext uu uu uu uu htab' uu => ?_
    have E : Ext s1 { s1 with heap := h', toks := tk } := by
      refine ⟨fun b o hb => ?_, rfl⟩
      by_cases z : b = P
      · subst z
        refine .inr ⟨hP, ps.vs, ⟨#[rawInt pos.line, rawInt pos.col, .ref c'], trivial⟩, ?_, htab'.2⟩
        rw [hps] at hb; cases hb; rfl
      · exact .inl (hext b o z hb)
    exact ⟨E, I.keep E.keep I.bare, trivial⟩
theorem ev_gbuiltins (hg : env.globals = mainGlobals) : Ev c n s (builtinsFor env.globals env.builtins) (fun uu b => b = builtinsNs) := fun s1 e I => by
  obtain ⟨ob, h1, h2, h3, h4, h5⟩ := I.bmod
  refine wpAny_builtinsFor (hg ▸ I.gl) h1 (by decide) h2 h3 h4 h5 ⟨.refl _, I, rfl⟩
structure GenR (c : Cx) (n : Nat) (s : Shared) (k : Nat) (F : Nat → Value → Prop) (G : Addr) (fp wr : List Addr) (GG : Array GenState → Array GenState → Prop) (St : Nat → Shared → Prop) (s5 : Shared) : Prop where
  ext : Ext s s5
  inv : Inv c s5
  inv0 : Inv c s
  walk : WalksS PR c.w (AL n).in4 G fp wr GG k F St
  typ : ∀ i s, St i s → s.TypeIs (.ref G) "generator"
  mem : G ∈ fp
  st : St 0 s5
  lt : ∀ b ∈ fp, b < s5.heap.objs.size
  fresh : ∀ b ∈ wr, s.heap.get? b = none
  bare : ∀ a b, GG a b → AllBare a → AllBare b
theorem GenR.moved {k : Nat} {F : Nat → Value → Prop} {G : Addr} {fp wr : List Addr} {GG : Array GenState → Array GenState → Prop} {St : Nat → Shared → Prop} {s5 s6 : Shared} (x : GenR c n s k F G fp wr GG St s5) (m : Moved wr GG s5 s6) : Ext s s6 ∧ Inv c s6 := by
  have E : Ext s s6 := by
    refine ⟨fun b o hb => ?_, m.os.trans x.ext.os⟩
    have nb : b ∉ wr := fun q => by rw [x.fresh b q] at hb; cases hb
    rcases x.ext.keep b o hb with q | ⟨h1, ps, more, e, q⟩
    · exact .inl (m.heap b o nb q)
    · exact .inr ⟨h1, ps, more, e, m.heap b _ nb q⟩
  exact ⟨E, x.inv0.keep E.keep (x.bare _ _ m.gens x.inv.bare)⟩
theorem WalksS.mono_P {prog : Program} {w : World} {A : Around} {I : Addr} {fp wr : List Addr} {G : Array GenState → Array GenState → Prop} {n : Nat} {P P' : Nat → Value → Prop} {St : Nat → Shared → Prop} (W : WalksS prog w A I fp wr G n P St) (h : ∀ i v, P i v → P' i v) : WalksS prog w A I fp wr G n P' St where
  sub := W.sub
  grefl := W.grefl
  gtrans := W.gtrans
  frame := W.frame
  item := fun i s Q E hi st hQ => W.item i s Q E hi st fun v s' p => hQ v s' (h i v p)
  done := W.done
  self := W.self
theorem passing_all (n : Nat) : passing (fun uu => true) n 0 = List.range n := by
  unfold passing; rw [List.drop_zero, List.filter_eq_self.mpr (fun uu uu => rfl)]
theorem acc_gen {x xa xb : Str} {pa pb pt xp : Pos} {kt : Nat} {elt : Expr} {scope : Scope} {cl : List (Str × Addr)} {ps : List Pc} {cda P : Addr} {F : Nat → Value → Prop} {Qv : Value → Shared → Prop} (K : AccT c)
    (he : EvD c n X s (eval (.Name x xp) env) (.acc (ps.map pcD) i0)) (Iv : Inv c s) (hc : env.code = .ref cda) (hd : codeHdIn c.K cda P = true) (hP : P ∈ tabs) (hgl : env.globals = mainGlobals) (hn : n ≤ 20)
    (hco : scope.isCoroutine = false) (hclos : closureFor scope env = pure cl) (hcell : ∀ y ∈ scope.names, y.2 ≠ .cell) (h0 : scope.names.lookup (".0" : Str) = some NameKind.local)
    (hxa : scope.names.lookup xa = some .local) (hxb : scope.names.lookup xb = some .local) (hab : xa ≠ xb) (hkind : scope.kind = .function) (hs : ∀ x', genFold (.Name x xp) env x' = pure x')
    (helt : ∀ (C : Addr) (code : Value) (A' : Around) (E' : Value → Shared → Prop) (i : Nat) (p : Pc) (t u : Tok) (s₂ : Shared) (m₂ : Str → Option Value), ps[i]? = some p → s₂.heap.Ns C m₂ → m₂ xa = some (.str p.1 t) → m₂ xb = some (.str p.2 u) → s₂.heap.Ns mainGlobals c.mg → s₂.heap.Ns builtinsNs c.mb →
      wpAny (model PR c.w) A' (eval elt (genEnv scope cl C code builtinsNs env)) (fun y s₃ => F i y ∧ Keeps s₂ s₃) E' s₂)
    (hq : ∀ G fp wr GG St s5, GenR c n s ps.length F G fp wr GG St s5 → Qv (.ref G) s5) :
    W c n (eval (.GeneratorExp elt [⟨.Tuple [.Name xa pa, .Name xb pb] kt pt, .Name x xp, [], 0⟩] scope pos) env) Qv s := by
  refine wpAny_GeneratorExp_walksQT rfl hco hclos hcell h0 hxa hxb hab hkind (by show 320 + 20 * n < 1000; omega) ?_ hs
  refine wz (he s (.refl _) Iv) (fun xv s1 e1 I1 t => ?_)
  obtain ⟨a, dx, us, rfl, na, nd, hr, tl⟩ := t
  refine acc_pyIter K I1 hr ?_
  have E2 := ext_push s1 { cls := .type "list_iterator", data := .fields #[.ref a, .int 0 0] }
  have I2 := I1.keep E2.keep I1.bare
  refine ⟨I2.lim, ?_⟩
  refine wz (ev_gcode (n := n) (s := s) hc hd hP _ (e1.trans E2) I2) (fun code s3 e3 I3 uu => ?_)
  refine wz (ev_gbuiltins (n := n) (s := s) hgl _ ((e1.trans E2).trans e3) I3) (fun bi s4 e4 I4 eb => ?_)
  subst eb
  have E24 := E2.trans (e3.trans e4)
  have K24 := (e3.trans e4).keep
  have itF : s1.heap.get? s1.heap.objs.size = none := size_none _
  have itO : s4.heap.get? s1.heap.objs.size = some { cls := .type "list_iterator", data := .fields #[.ref a, .int 0 0] } := K24.get (Heap.get?_push_size _ rfl) (by intro e; cases e)
  have hr4 : AccRaw s4.heap a dx us i0 := hr.keep (fun o q1 q2 => E24.keep.get q1 q2) (fun o q1 q2 => E24.keep.get q1 q2)
  obtain ⟨_, _, ⟨m, ha4⟩, _⟩ := id hr4
  have ane : a ≠ s1.heap.objs.size := fun q => by
    obtain ⟨_, _, ⟨m, h1⟩, _⟩ := id hr
    rw [q, itF] at h1; cases h1
  have sz : us.size = ps.length := by have := tl.length; rw [Array.length_toList] at this; simpa using this
  have st0 : AccSt s1.heap.objs.size a dx us ps 0 s4.heap := by
    refine ⟨⟨_, itO, rfl, rfl⟩, ⟨m, ha4⟩, sz, fun j p hp => ?_⟩
    obtain ⟨T, t, u, h1, h2⟩ := pcs_get tl j p hp
    obtain ⟨o, ho, hcc, hdd⟩ := id h2
    refine ⟨T, t, u, by simpa using h1, (fun q => by rw [q, itF] at ho; cases ho), o, E24.keep.get ho (by rw [hcc]; intro e; cases e), hcc, hdd⟩
  have addr_lt : ∀ b ∈ us.toList.map addrOf, b < s4.heap.objs.size := fun b hb => by
    obtain ⟨v, hv, rfl⟩ := List.mem_map.mp hb
    obtain ⟨j, hj, ev⟩ := List.mem_iff_getElem.mp hv
    have hj' : j < ps.length := by simp at hj; omega
    obtain ⟨T, t, u, h1, h2⟩ := pcs_get tl j ps[j] (List.getElem?_eq_getElem hj')
    rw [List.getElem?_eq_getElem hj] at h1
    have := Option.some.inj h1
    rw [← ev, this]
    obtain ⟨o, ho, hcc, _⟩ := id h2
    exact Heap.lt_size (E24.keep.get ho (by rw [hcc]; intro e; cases e))
  have low_size : ∀ b : Addr, @LE.le Nat _ b 256 → b < s4.heap.objs.size := fun b hb => Nat.lt_of_le_of_lt hb I4.size
  have it_far : @LT.lt Nat _ 256 s1.heap.objs.size := I1.size
  refine ⟨s1.heap.objs.size, s1.heap.objs.size :: a :: us.toList.map addrOf, [s1.heap.objs.size], ps.length, PcAt ps, AccSt s1.heap.objs.size a dx us ps, fun i T h => AccSt s1.heap.objs.size a dx us ps (i + 1) h ∧ T ≠ s1.heap.objs.size, fun uu => true, F, rfl, fun A' hA => acc_walk ane A' hA, fun i vals zp => by obtain ⟨p, t, u, _, e⟩ := zp; exact ⟨_, _, e⟩, st0, fun b hb => ?_, I4.lim, ?_, fun href hk => ?_, fun G h5 tk gs hgs hG hsz hk W hst => ?_⟩
  · rcases List.mem_cons.mp hb with rfl | hb
    · exact Heap.lt_size itO
    · rcases List.mem_cons.mp hb with rfl | hb
      · exact Heap.lt_size ha4
      · exact addr_lt b hb
  · intro q
    have q : cStatics = s1.heap.objs.size := by simpa using q
    exact absurd (q ▸ it_far) (by decide)
  · have nsk : ∀ {s₂ : Shared} {b : Addr} {mm : Str → Option Value}, @LE.le Nat _ b 256 → s4.heap.Ns b mm → (∀ b ∈ List.range s4.heap.objs.size, b ∉ [s1.heap.objs.size] → ∀ o, href.get? b = some o → s₂.heap.get? b = some o) → s₂.heap.Ns b mm := fun {s₂ b mm} hb ⟨o, es, ep, ho, r⟩ kp => ⟨o, es, ep, kp b (List.mem_range.mpr (low_size b hb)) (fun q => by
      have q : b = s1.heap.objs.size := by simpa using q
      exact absurd (q ▸ it_far) (Nat.not_lt.mpr hb)) o (hk b o ho), r⟩
    refine ⟨fun A' E' i va vb s₂ m₂ hA hPt hns ha hb kp => ?_, fun A' E' i va vb s₂ m₂ hA hPt uu hns ha hb kp => ?_⟩
    · exact wpAny_pure ⟨rfl, s₂.heap, s₂.toks, rfl, fun uu uu e => e⟩
    · obtain ⟨p, t, u, hp, e⟩ := hPt
      have e1 : va = .str p.1 t := by have := congrArg (·[0]?) e; simpa using this
      have e2 : vb = .str p.2 u := by have := congrArg (·[1]?) e; simpa using this
      subst e1 e2
      exact helt _ _ A' E' i p t u s₂ m₂ hp hns ha hb (nsk (by decide) I4.gl kp) (nsk (by decide) I4.bl kp)
  · have E5 : Ext s4 { s4 with gens := s4.gens.push gs, toks := tk, heap := h5 } := ⟨Keep.full hk, rfl⟩
    refine hq G _ _ _ _ _ ⟨(e1.trans E24).trans E5, I4.keep E5.keep (I4.bare.push hgs), Iv, WalksS.mono_P (by rw [passing_all, List.length_range] at W; exact W) ?_, fun i s6 st => st.1.typeIs, List.mem_cons_self .., hst, fun b hb => ?_, fun b hb => ?_, fun g1 g2 hg hb => GenOnlyQ.bare hg hb⟩
    · rintro i v ⟨j, hj, hF⟩
      have : j = i := by
        obtain ⟨h1, h2⟩ := List.getElem?_eq_some_iff.mp hj
        simpa using h2.symm
      exact this ▸ hF
    · show b < h5.objs.size
      rw [hsz]
      rcases List.mem_cons.mp hb with rfl | hb
      · exact Nat.lt_succ_self _
      · rcases List.mem_cons.mp hb with rfl | hb
        · exact Nat.lt_succ_of_lt hG
        · exact Nat.lt_succ_of_lt (Nat.lt_trans (List.mem_range.mp hb) hG)
    · rcases List.mem_cons.mp hb with rfl | hb
      · exact ext_none (e1.trans E24) (size_none _)
      · have : b = s1.heap.objs.size := by simpa using hb
        rw [this]; exact ext_none e1 itF
end
end Mine
end
section
open PySem PySem.W PySem.Calls PyProof.Rows Builtin Builtin.ObjectAttr
set_option linter.unusedVariables false
set_option maxRecDepth 100000
namespace Mine
set_option genSizeOf false
set_option genInjectivity false
set_option tactic.hygienic false
theorem entry_list_ga : entryFor table "list.__getattribute__" = some Builtin.«object.__getattribute__» :=
  entryFor_alias (id' := "object.__getattribute__") (by kernel_rfl) rfl (by decide +kernel) (by kernel_rfl)
theorem args_list_ga (a b : Value) : argsOk "list.__getattribute__" ⟨[a, b], []⟩ := by unfold argsOk; kernel_rfl
theorem bind_list_ga (self : Value) : bindSpecial (.builtin "list.__getattribute__") self = pure (.builtin "list.__getattribute__", [self]) := by kernel_rfl
theorem split_list_ga : splitId "list.__getattribute__" = some ("list", "__getattribute__") := by decide +kernel
theorem kind_list_ga : builtinKind "list.__getattribute__" = some .slot := by decide +kernel
theorem plain_list_ga : plainId "list.__getattribute__" = true := by decide +kernel
section
variable {c : Cx} {n : Nat} {env : Env} {X X₀ own Z : Addr → Prop} {hA : Heap} {os : OsState} {s s' s₀ : Shared} {σ : List (Str × LV)} {d : D} {ds : List D} {i0 : Int} {pos : Pos} {rest body : List Stmt} {Q : Flow → Shared → Prop}
theorem acc_getsize {A : Around} {E : Value → Shared → Prop} {a dx : Addr} {vs : Array Value} {expr : Bool} {Qv : Value → Shared → Prop} (K : AccU c) (I : Inv c s) (hr : AccRaw s.heap a dx vs i0)
    (hq : ∀ t, Qv (.int i0 t) { s with toks := s.toks + 1 }) : wpAny (model PR c.w) A (getAttr (.ref a) "_initial_size" expr) Qv E s := by
  obtain ⟨m, od, It, ⟨t, hini⟩, _⟩ := hr.inst
  obtain ⟨cd, hcd⟩ := K.ob117
  have hdict : cd.hasDict = true := by
    obtain ⟨cd', h1, h2⟩ := K.cls
    rw [hcd] at h1; cases h1; exact h2
  unfold getAttr getAttrBy
  refine wpAny_bind (wpAny_mkText (wpAny_holding (wpAny_bind (It.type _ _ _ _ (fun uu uu e => e) (wpAny_bind (looks_findIn I.kin K.ga _ _ _ _ (fun uu uu e => e) ?_))))))
  show wpAny _ _ (getAttrByItsOwn (.ref a) (.str "_initial_size" s.toks) (.ref 117) (.builtin "list.__getattribute__") true expr) _ _ _
  unfold getAttrByItsOwn hookBefore callGetattribute boundAndCalled
  refine wpAny_bind (m := if onTheHeap (.ref 117) then typeLookup (.ref 117) "__getattr__" else pure none) ?_
  rw [if_pos (show onTheHeap (.ref 117) = true from rfl)]
  refine looks_findIn I.kin K.gat _ _ _ _ (fun uu uu e => e) ?_
  have hne : (expr && onTheHeap (.builtin "list.__getattribute__")) = false := by
    rw [show onTheHeap (.builtin "list.__getattribute__") = false from rfl, Bool.and_false]
  rw [hne]
  refine wpAny_bind (wpAny_attempt (wpAny_holding ?_))
  rw [if_neg (by decide)]
  refine wpAny_bind (wpAny_of_eq (bind_list_ga _) ?_)
  refine call_accB (s := { s with toks := s.toks + 1 }) (I.toks _) hr (.inl kind_list_ga) (nm := "__getattribute__") split_list_ga plain_list_ga entry_list_ga K.sub (args_list_ga _ _) ?_
  unfold Builtin.«object.__getattribute__»
  have L0 := It.type (M := model PR c.w)
  have L1 : Looks (model PR c.w) s.heap (find (.ref a) (.ref 117) "_initial_size") (.value (.int i0 t)) := looks_find I.kin It (by
    exact findObj_own (attr := none) (by unfold hasDictIn; rw [hcd]; exact hdict) K.ini rfl hini)
  refine wpAny_bind (wpAny_pure (wpAny_bind (wpAny_pure (wpAny_bind (L0 _ _ _ _ (fun uu uu e => e) (wpAny_bind (L1 _ _ _ _ (fun uu uu e => e) ?_)))))))
  exact wpAny_pure ⟨_, rfl, wpAny_pure (hq t)⟩
end
end Mine
end
section
open PySem PySem.W PySem.Calls PyProof.Rows
set_option linter.unusedVariables false
set_option maxRecDepth 100000
namespace Mine
set_option genSizeOf false
set_option genInjectivity false
set_option tactic.hygienic false
section
variable {c : Cx} {n : Nat} {env : Env} {X X₀ own Z : Addr → Prop} {hA : Heap} {os : OsState} {s s' s₀ : Shared} {σ : List (Str × LV)} {d : D} {ds : List D} {i0 : Int} {pos : Pos} {rest body : List Stmt} {Q : Flow → Shared → Prop}
theorem g_len_str {A : Around} {E : Value → Shared → Prop} {Qv : Value → Shared → Prop} {env2 : Env} {y : Str} {yp lp cp : Pos} {x : Str} {t : Tok} {m : Str → Option Value} (O : c.Ok) (hk : env2.scope.kind = .function) (hxx : env2.kindOf "len" = some .globalImplicit) (hgl : env2.globals = mainGlobals) (hbl : env2.builtins = builtinsNs)
    (hy : env2.kindOf y = some .local) (hd : (y == ("__debug__" : Str)) = false) (hG : s.heap.Ns mainGlobals c.mg) (hB : s.heap.Ns builtinsNs c.mb) (hns : s.heap.Ns env2.locals m) (hm : m y = some (.str x t)) (hsz : x.length ≤ 100000)
    (h : ∀ t', Qv (.int x.length t') { s with toks := s.toks + 1 + 1 }) : wpAny (model PR c.w) A (eval (.Call (.Name "len" lp) [.Name y yp] [] cp) env2) Qv E s := by
  refine Call_Name (trees := [(false, eval (.Name y yp) env2)]) rfl (Name_function_global hk hxx (loadGlobal_builtin (v := .builtin "len") (hgl ▸ hG) (O.no "len" (inF 0 rfl)) (hbl ▸ hB) ((O.blt _ (by decide)).trans (by kernel_rfl)) ?_) (by decide))
  refine callWith_builtin rfl (evalArgs_any rfl (spliced_cons (wpAny_Name (wpAny_loadName_local hk hy hns hm (spliced_nil ?_)) hd)))
  have p63 : (2 : Int) ^ 63 = 9223372036854775808 := by decide
  exact PySem.P.len_str (by omega) (h _)
theorem g_lens {A : Around} {E : Value → Shared → Prop} {Qv : Value → Shared → Prop} {env2 : Env} {y z : Str} {yp lp cp zp lp2 cp2 : Pos} {x u : Str} {t tu : Tok} {m : Str → Option Value} (O : c.Ok) (hk : env2.scope.kind = .function) (hxx : env2.kindOf "len" = some .globalImplicit) (hgl : env2.globals = mainGlobals) (hbl : env2.builtins = builtinsNs)
    (hy : env2.kindOf y = some .local) (hd : (y == ("__debug__" : Str)) = false) (hz : env2.kindOf z = some .local) (hdz : (z == ("__debug__" : Str)) = false) (hG : s.heap.Ns mainGlobals c.mg) (hB : s.heap.Ns builtinsNs c.mb) (hns : s.heap.Ns env2.locals m) (hm : m y = some (.str x t)) (hmz : m z = some (.str u tu)) (hsz : x.length ≤ 100000) (hsu : u.length ≤ 100000)
    (h : ∀ t' k, Qv (.int ((x.length : Int) + (u.length : Int)) t') { s with toks := k }) : wpAny (model PR c.w) A (eval (.BinOp (.Call (.Name "len" lp) [.Name y yp] [] cp) .Add (.Call (.Name "len" lp2) [.Name z zp] [] cp2) pos) env2) Qv E s := by
  refine wpAny_BinOp (g_len_str O hk hxx hgl hbl hy hd hG hB hns hm hsz fun t1 => ?_)
  refine g_len_str (s := { s with toks := s.toks + 1 + 1 }) O hk hxx hgl hbl hz hdz hG hB hns hmz hsu fun t2 => ?_
  exact wpAny_add_int (h _ _)
noncomputable def pcLen (p : Pc) : Int := (p.1.length : Int) + (p.2.length : Int)
noncomputable def pcSum (ps : List Pc) : Int := (ps.map pcLen).sum
theorem preSum_map (ps : List Pc) : ∀ k, k ≤ ps.length → preSum (fun i => (ps[i]?.map pcLen).getD 0) k = ((ps.map pcLen).take k).sum
  | 0, u1 => by simp [preSum]
  | k + 1, h => by
    rw [preSum, preSum_map ps k (by omega), List.take_add_one, List.sum_append, List.getElem?_map]
    rw [List.getElem?_eq_getElem (by omega)]; simp
theorem ok_len : R_len.Ok ["self"] where
  mem := inF 3 rfl
  cl := rfl
  bind := fun kV doc pm an ct vs h => by
    obtain ⟨a, rfl⟩ := len1 h
    rfl
  kinds := by rfl
  nodup := by decide
  cnodup := by decide
  celled := by rfl
  co := rfl
  gen := rfl
  fun_ := rfl
structure AccG (c : Cx) : Prop extends AccM c where
  code83 : codeHdIn c.K 83 79 = true
  code90 : codeHdIn c.K 90 86 = true
theorem len_fn (O : c.Ok) (K : AccG c) (ps : List Pc) (hi : 0 ≤ i0) (hi2 : i0 < 1000) (hps : ∀ p ∈ ps, p.1.length ≤ 1000 ∧ p.2.length ≤ 1000) (hn : n ≤ 19) : Fn c n (.ref 84) [.acc (ps.map pcD) i0] (.int (i0 + pcSum ps)) := by
  refine Fn.intro (f := R_len) ok_len rfl (by omega) fun X₀ own s₀ s L cells hc B => ?_
  subst hc
  refine st_ret B ?_ fun uu uu z => z
  refine EvD.int_any (X := fun a => X₀ a ∨ own a) fun s1 e1 I1 => ?_
  have B1 := B.ext e1 I1
  have hsum : ∀ p : Pos, EvV c (n + 1) s1 (eval (.Name "sum" p) (R_len.env L (cellsFrom (L + 1) (scOf R_len.st).names []))) (.builtin "sum") := fun p => blt_name O (inF 2 rfl) boot_sum
  refine Call_Name (starEach_plain rfl) (wz (hsum _ s1 (.refl _) I1) (fun u s2 e2 I2 hu => ?_))
  subst hu
  refine callWith_builtin EvEs.any (evalArgs_any EvEs.any ?_)
  have B2 := B1.ext e2 I2
  refine spliced_cons (acc_gen (ps := ps) (cl := []) (F := fun i v => ∃ t, v = .int ((ps[i]?.map pcLen).getD 0) t) K.toAccT (ev_loc B2 rfl) I2 rfl K.code83 (by decide) rfl (by omega) rfl rfl ?_ rfl rfl rfl (by decide) rfl (fun uu => rfl) ?_ fun G fp wr GG St s5 R => ?_)
  · show ∀ y ∈ _, _
    decide
  · intro C code A' E' i p t u s₂ m₂ hp hns ha hb hG hB
    refine g_lens (env2 := genEnv _ [] C code builtinsNs _) O rfl rfl rfl rfl rfl (by decide) rfl (by decide) hG hB hns ha hb ?_ ?_ fun t' k => ?_
    · have := (hps p (List.mem_of_getElem? hp)).1; omega
    · have := (hps p (List.mem_of_getElem? hp)).2; omega
    · refine ⟨⟨t', ?_⟩, s₂.heap, k, rfl, fun uu uu e => e⟩
      rw [hp]; rfl
  · have B5 := B2.ext R.ext R.inv
    refine spliced_cons (Attribute_name (ld_name (lv := .tr (.acc (ps.map pcD) i0)) B5 rfl rfl rfl fun v ok => ?_))
    obtain ⟨a, dx, us, rfl, _, _, hr, _⟩ := ok
    refine acc_getsize K.toAccU R.inv hr fun t => spliced_nil ?_
    refine call_sum_start (s := { s5 with toks := s5.toks + 1 }) (val := fun i => (ps[i]?.map pcLen).getD 0) R.walk.in4_1 (R.walk.frame 0 s5 s5.heap _ R.st (Nat.le_succ _) fun uu uu uu e => e) R.lt (fun i v h => h) hi (by omega) fun s6 t' m => ?_
    obtain ⟨E6, I6⟩ := R.moved (s6 := s6) ⟨m.heap, m.gens, m.drawn, m.os, Nat.le_trans (Nat.le_succ _) m.toks⟩
    refine ⟨e2.trans E6, I6, t', ?_⟩
    have : preSum (fun i => (ps[i]?.map pcLen).getD 0) ps.length = pcSum ps := by
      rw [preSum_map ps ps.length (Nat.le_refl _), List.take_of_length_le (by simp)]; rfl
    rw [this]
end
end Mine
end
section
open PySem PySem.W PySem.Calls PyProof.Rows
set_option linter.unusedVariables false
set_option maxRecDepth 100000
namespace Mine
set_option genSizeOf false
set_option genInjectivity false
set_option tactic.hygienic false
structure AccH (c : Cx) : Prop extends AccG c where
  t84 : typeIn c.K (.ref 84) = some (.type "function")
  t91 : typeIn c.K (.ref 91) = some (.type "function")
section
variable {c : Cx} {n : Nat} {env : Env} {X X₀ own Z : Addr → Prop} {hA : Heap} {os : OsState} {s s' s₀ : Shared} {σ : List (Str × LV)} {d : D} {ds : List D} {i0 : Int} {pos : Pos} {rest body : List Stmt} {Q : Flow → Shared → Prop}
theorem pcSum_nonneg (ps : List Pc) : 0 ≤ pcSum ps := by
  induction ps with
  | nil => exact Int.le_refl _
  | cons p ps ih =>
    show 0 ≤ pcLen p + pcSum ps
    have : 0 ≤ pcLen p := by unfold pcLen; omega
    omega
theorem pcSum_le (ps : List Pc) (hps : ∀ p ∈ ps, p.1.length ≤ 1000 ∧ p.2.length ≤ 1000) : pcSum ps ≤ 2000 * ps.length := by
  induction ps with
  | nil => exact Int.le_refl _
  | cons p ps ih =>
    have ih := ih fun q hq => hps q (List.mem_cons_of_mem _ hq)
    have hp := hps p (List.mem_cons_self ..)
    show pcLen p + pcSum ps ≤ 2000 * ((ps.length + 1 : Nat) : Int)
    have : pcLen p ≤ 2000 := by unfold pcLen; omega
    omega
theorem ev_acclen {p : Pos} {e : Expr} {ps : List Pc} (O : c.Ok) (K : AccH c) (hX : ∀ a, X a → (s.heap.get? a).isSome = true) (h : EvD c n X s (eval e env) (.acc (ps.map pcD) i0)) (hi : 0 ≤ i0) (hi2 : i0 < 1000) (hsz : ps.length ≤ 1000) (hps : ∀ p ∈ ps, p.1.length ≤ 1000 ∧ p.2.length ≤ 1000) (hn : n ≤ 18)
    (hns : autoParam (noStar [e] = true) tacR) (hk : autoParam (env.scope.kind = .function) tacR) (hx : autoParam (env.kindOf "len" = some .globalImplicit) tacR) (hgl : autoParam (env.globals = mainGlobals) tacR) (hbl : autoParam (env.builtins = builtinsNs) tacR) :
    EvD c n X s (eval (.Call (.Name "len" p) [e] [] pos) env) (.int (i0 + pcSum ps)) := by
  refine ev_bcall (blt_len O hk hx hgl hbl) (starEach_plain hns) EvEs.any (EvEs.evl (.cons h .nil)) fun vs s1 e1 I1 zp => ?_
  obtain ⟨v, r, ev, t, er⟩ := zp
  have er : r = [] := er
  subst er ev
  obtain ⟨a, dx, us, rfl, na, nd, hr, tl⟩ := t
  intro s2 e2 I2
  have hr2 : AccRaw s2.heap a dx us i0 := hr.keep (fun o q1 q2 => e2.keep.get q1 q2) (fun o q1 q2 => e2.keep.get q1 q2)
  obtain ⟨m, od, It, _⟩ := hr2.inst
  refine Calls.call_function_entry kind_len plain_len entry_len (args_len1 _) ?_
  unfold Builtin.«len»
  refine wpAny_bind (m := oneArg "len" _) (wpAny_pure ?_)
  refine wpAny_bind (PySem.W.special_fn I2.kin It K.len K.t84 ?_)
  have hlow := pcSum_nonneg ps
  have hhi := pcSum_le ps hps
  refine wz (wp_weak (A' := AL (n + 1)) rfl (by show 320 + 20 * n ≤ 320 + 20 * (n + 1); omega) (by show 200 + 200 * n + 1 ≤ 200 + 200 * (n + 1); omega) rfl rfl
    (len_fn (n := n + 1) O K.toAccG ps hi hi2 hps (by omega) X s2 [.ref a] I2 (fun b hb => (e1.trans e2).keep.there (hX b hb)) ⟨.ref a, [], rfl, ⟨a, dx, us, rfl, na, nd, hr2, tl.ext e2⟩, rfl⟩)) (fun v s3 e3 I3 zr => ?_)
  obtain ⟨t3, ev⟩ := zr
  subst ev
  have p63 : (2 : Int) ^ 63 = 9223372036854775808 := by decide
  refine wpAny_bind (wpAny_holding (wpAny_pure ?_))
  refine wpAny_bind (wpAny_letGo ?_)
  rw [if_neg (by omega)]
  dsimp only
  rw [if_neg (by omega)]
  exact wpAny_bind (wpAny_mkInt (wpAny_pure ⟨_, rfl, e3.trans (.toks _ _), I3.toks _, _, rfl⟩))
end
end Mine
end
section
open PySem PySem.W PySem.Calls PyProof.Rows
set_option linter.unusedVariables false
set_option maxRecDepth 100000
namespace Mine
set_option genSizeOf false
set_option genInjectivity false
set_option tactic.hygienic false
section
variable {c : Cx} {n : Nat} {env : Env} {X X₀ own Z : Addr → Prop} {hA : Heap} {os : OsState} {s s' s₀ : Shared} {σ : List (Str × LV)} {d : D} {ds : List D} {i0 : Int} {pos : Pos} {rest body : List Stmt} {Q : Flow → Shared → Prop}
theorem g_empty {A : Around} {E : Value → Shared → Prop} {Qv : Value → Shared → Prop} {env2 : Env} {p : Pos} (O : c.Ok) (hk : env2.scope.kind = .function) (hxx : env2.kindOf "EMPTYSTRING" = some .globalImplicit) (hgl : env2.globals = mainGlobals) (hG : s.heap.Ns mainGlobals c.mg)
    (h : ∀ t, Qv (.str "" t) s) : wpAny (model PR c.w) A (eval (.Name "EMPTYSTRING" p) env2) Qv E s := by
  obtain ⟨t, ht⟩ := O.empty
  exact Name_function_global hk hxx (loadGlobal_global (hgl ▸ hG) ht (h t)) (by decide)
theorem g_join2 {A : Around} {E : Value → Shared → Prop} {Qv : Value → Shared → Prop} {env2 : Env} {y z : Str} {yp zp p1 apos tp cp : Pos} {k : Nat} {x u : Str} {t tu : Tok} {m : Str → Option Value} (O : c.Ok) (hk : env2.scope.kind = .function) (hxx : env2.kindOf "EMPTYSTRING" = some .globalImplicit) (hgl : env2.globals = mainGlobals)
    (hy : env2.kindOf y = some .local) (hd : (y == ("__debug__" : Str)) = false) (hz : env2.kindOf z = some .local) (hdz : (z == ("__debug__" : Str)) = false) (hG : s.heap.Ns mainGlobals c.mg) (hns : s.heap.Ns env2.locals m) (hm : m y = some (.str x t)) (hmz : m z = some (.str u tu)) (hsz : x.length ≤ 100000) (hsu : u.length ≤ 100000)
    (hline : (apos.endLine == cp.line) = true) (hbase : attributeBase (.Name "EMPTYSTRING" p1) "join" env2 (eval (.Name "EMPTYSTRING" p1) env2) = eval (.Name "EMPTYSTRING" p1) env2)
    (h : ∀ t' h' tk, (∀ b o, s.heap.get? b = some o → h'.get? b = some o) → Qv (.str (Txt.join "" [x, u]) t') { s with heap := h', toks := tk }) :
    wpAny (model PR c.w) A (eval (.Call (.Attribute (.Name "EMPTYSTRING" p1) "join" apos) [.Tuple [.Name y yp, .Name z zp] k tp] [] cp) env2) Qv E s := by
  refine call_attr (g_empty O hk hxx hgl hG fun t0 => ?_) (starEach_plain rfl) (by rfl) hbase hline
  refine getMethod_builtin (typeIs_str _ _ _) F.plainAttrs_str F.slot_str_join F.type_str_join (fun a e => nomatch e) ?_
  refine callWith_builtin rfl (evalArgs_any rfl (spliced_cons ?_))
  refine wpAny_Tuple ?_
  rw [starEach_plain (env := env2) (pos := tp) (es := [.Name y yp, .Name z zp]) rfl]
  refine spliced_cons (wpAny_Name (wpAny_loadName_local hk hy hns hm (spliced_cons (wpAny_Name (wpAny_loadName_local hk hz hns hmz (spliced_nil ⟨by show (2 : Nat) ≤ _; decide, spliced_nil ?_⟩)) hdz))) hd)
  refine join_tuple (items := #[.str x t, .str u tu]) (ys := [x, u]) ⟨_, Heap.get?_push_size _ rfl, rfl, 0, rfl⟩ (.cons _ _ (.cons _ _ .nil)) ?_ fun t' k => h t' _ k fun b o e => Heap.get?_push_of_some _ e
  simp only [List.map_cons, List.map_nil, List.sum_cons, List.sum_nil, List.length_cons, List.length_nil]
  have : Str.length "" = 0 := by decide +kernel
  rw [this]; omega
noncomputable def pcText (p : Pc) : Str := Txt.join "" [p.1, p.2]
theorem empty_cps : ("" : Str).cps = #[] := by decide +kernel
theorem pcText_cps (p : Pc) : (pcText p).cps = p.1.cps ++ p.2.cps := by
  show p.1.cps ++ ("" : Str).cps ++ p.2.cps = _
  rw [empty_cps]; simp
theorem pcText_len (p : Pc) : ((pcText p).length : Int) = pcLen p := by
  show (((pcText p).cps.size : Nat) : Int) = ((p.1.cps.size : Nat) : Int) + ((p.2.cps.size : Nat) : Int)
  rw [pcText_cps, Array.size_append]; omega
theorem pcText_sum (ps : List Pc) : ((((ps.map pcText).map (·.length)).sum : Nat) : Int) = pcSum ps := by
  induction ps with
  | nil => rfl
  | cons p ps ih =>
    rw [List.map_cons, List.map_cons, List.sum_cons]
    show (((pcText p).length + ((ps.map pcText).map (·.length)).sum : Nat) : Int) = pcLen p + pcSum ps
    rw [← ih, ← pcText_len]; omega
theorem ok_str : R_str.Ok ["self"] where
  mem := inF 4 rfl
  cl := rfl
  bind := fun kV doc pm an ct vs h => by
    obtain ⟨a, rfl⟩ := len1 h
    rfl
  kinds := by rfl
  nodup := by decide
  cnodup := by decide
  celled := by rfl
  co := rfl
  gen := rfl
  fun_ := rfl
theorem items_strs {ps : List Pc} : ∀ {l : List (Str × Tok)}, ItemsOf (fun i v => ∃ t, v = .str ((ps[i]?.map pcText).getD "") t) (strValues l).toArray ps.length → l.map (·.1) = ps.map pcText := fun {l} h => by
  obtain ⟨h1, h2⟩ := h
  have hl : l.length = ps.length := by simpa [strValues] using h1
  apply List.ext_getElem
  · simpa using hl
  · intro i q1 q2
    have hi : i < l.length := by simpa using q1
    obtain ⟨t, ht⟩ := h2 i (.str (l[i]'hi).1 (l[i]'hi).2) (by simp [strValues, hi])
    have hp : ps[i]? = some (ps[i]'(by omega)) := List.getElem?_eq_getElem (by omega)
    rw [hp] at ht
    have := (Value.str.inj ht).1
    simpa using this
theorem str_fn (O : c.Ok) (K : AccG c) (ps : List Pc) (hsz : ps.length ≤ 100) (hps : ∀ p ∈ ps, p.1.length ≤ 1000 ∧ p.2.length ≤ 1000) (hn : n ≤ 19) : Fn c n (.ref 91) [.acc (ps.map pcD) i0] (.str (Txt.join "" (ps.map pcText))) := by
  refine Fn.intro (f := R_str) ok_str rfl (by omega) fun X₀ own s₀ s L cells hc B => ?_
  subst hc
  refine st_ret B ?_ fun uu uu z => z
  refine Ev.imp (R := TrP (fun a => X₀ a ∨ own a) (.str (Txt.join "" (ps.map pcText)))) (fun s1 e1 I1 => ?_) fun s v uu uu y => y
  have B1 := B.ext e1 I1
  refine call_attr (g_empty O rfl rfl rfl I1.gl fun t0 => ?_) (starEach_plain rfl) (by rfl) rfl rfl
  refine getMethod_builtin (typeIs_str _ _ _) F.plainAttrs_str F.slot_str_join F.type_str_join (fun a e => nomatch e) ?_
  refine callWith_builtin EvEs.any (evalArgs_any EvEs.any ?_)
  refine spliced_cons (acc_gen (ps := ps) (cl := []) (F := fun i v => ∃ t, v = .str ((ps[i]?.map pcText).getD "") t) K.toAccT (ev_loc B1 rfl) I1 rfl K.code90 (by decide) rfl (by omega) rfl rfl ?_ rfl rfl rfl (by decide) rfl (fun uu => rfl) ?_ fun G fp wr GG St s5 R => ?_)
  · show ∀ y ∈ _, _
    decide
  · intro C code A' E' i p t u s₂ m₂ hp hns ha hb hG hB
    refine g_join2 (env2 := genEnv _ [] C code builtinsNs _) O rfl rfl rfl rfl (by decide) rfl (by decide) hG hns ha hb ?_ ?_ rfl rfl fun t' h' k hk => ?_
    · have := (hps p (List.mem_of_getElem? hp)).1; omega
    · have := (hps p (List.mem_of_getElem? hp)).2; omega
    · refine ⟨⟨t', ?_⟩, h', k, rfl, hk⟩
      rw [hp]; rfl
  · refine spliced_nil ?_
    refine SC.joinGen R.walk.in4_2 R.typ R.st R.lt R.mem (fun i v zp => by obtain ⟨t, e⟩ := zp; exact ⟨_, t, e⟩) (fun s6 l m hl => ?_) (by show ps.length ≤ 2 ^ 24; omega)
    have hl' := items_strs hl
    obtain ⟨E6, I6⟩ := R.moved m
    rw [hl']
    refine ⟨?_, fun t' k => ⟨E6.trans (.toks _ _), I6.toks _, t', rfl⟩⟩
    refine PyProof.Rows.joinOk_of ?_
    have h1 := pcText_sum ps
    have h2 := pcSum_le ps hps
    have h3 : Str.length "" = 0 := by decide +kernel
    rw [h3]; omega
end
end Mine
end
section
open PySem PySem.W PySem.Calls PyProof.Rows
set_option linter.unusedVariables false
set_option maxRecDepth 100000
namespace Mine
set_option genSizeOf false
set_option genInjectivity false
set_option tactic.hygienic false
section
variable {c : Cx} {n : Nat} {env : Env} {X X₀ own Z : Addr → Prop} {hA : Heap} {os : OsState} {s s' s₀ : Shared} {σ : List (Str × LV)} {d : D} {ds : List D} {i0 : Int} {pos : Pos} {rest body : List Stmt} {Q : Flow → Shared → Prop}
theorem ev_accstr {p : Pos} {e : Expr} {ps : List Pc} (O : c.Ok) (K : AccH c) (hX : ∀ a, X a → (s.heap.get? a).isSome = true) (h : EvD c n X s (eval e env) (.acc (ps.map pcD) i0)) (hsz : ps.length ≤ 100) (hps : ∀ p ∈ ps, p.1.length ≤ 1000 ∧ p.2.length ≤ 1000) (hn : n ≤ 18)
    (hns : autoParam (noStar [e] = true) tacR) (hk : autoParam (env.scope.kind = .function) tacR) (hx : autoParam (env.kindOf "str" = some .globalImplicit) tacR) (hgl : autoParam (env.globals = mainGlobals) tacR) (hbl : autoParam (env.builtins = builtinsNs) tacR) :
    EvD c n X s (eval (.Call (.Name "str" p) [e] [] pos) env) (.str (Txt.join "" (ps.map pcText))) := by
  refine ev_tcall (T := "str") (blt_name O (inF 7 rfl) boot_str (by decide) hk hx hgl hbl) (EvEs.evl (.cons h .nil)) (fun vs s1 e1 I1 zp => ?_) hns
  obtain ⟨v, r, ev, t, er⟩ := zp
  have er : r = [] := er
  subst er ev
  obtain ⟨a, dx, us, rfl, na, nd, hr, tl⟩ := t
  intro s2 e2 I2
  have hr2 : AccRaw s2.heap a dx us i0 := hr.keep (fun o q1 q2 => e2.keep.get q1 q2) (fun o q1 q2 => e2.keep.get q1 q2)
  obtain ⟨m, od, It, _⟩ := hr2.inst
  refine PySem.W.kso_call (by show 200 + 200 * n + 1 + 1 < 9900; omega) I2.kin It K.str (by show (typeIn c.K (.ref 91) == some (.type "function")) = true; rw [K.t91]; rfl) ?_
  refine wz (wp_weak (A' := AL (n + 1)) rfl (by show 320 + 20 * n ≤ 320 + 20 * (n + 1); omega) (by show 200 + 200 * n + 1 + 1 ≤ 200 + 200 * (n + 1); omega) rfl rfl
    (str_fn (n := n + 1) O K.toAccG ps hsz hps (by omega) X s2 [.ref a] I2 (fun b hb => (e1.trans e2).keep.there (hX b hb)) ⟨.ref a, [], rfl, ⟨a, dx, us, rfl, na, nd, hr2, tl.ext e2⟩, rfl⟩)) (fun v s3 e3 I3 zr => ?_)
  obtain ⟨t3, ev⟩ := zr
  subst ev
  exact ⟨e3, I3, t3, rfl⟩
end
end Mine
end
section
open PySem PySem.W PySem.Calls PyProof.Rows
set_option linter.unusedVariables false
set_option maxRecDepth 100000
namespace Mine
set_option genSizeOf false
set_option genInjectivity false
set_option tactic.hygienic false
noncomputable def VL : List (Int × Int) → List (Int × Value) → Prop
  | [], vs => vs = []
  | p :: es, vs => ∃ t r, vs = (p.1, .int p.2 t) :: r ∧ VL es r
theorem VL.keys : ∀ {es : List (Int × Int)} {kvs : List (Int × Value)}, VL es kvs → kvs.map (·.1) = es.map (·.1)
  | [], u1, e => by rw [show _ = [] from e]; rfl
  | p :: es, u1, zp => by obtain ⟨t, r, e, h⟩ := zp; rw [e, List.map_cons, List.map_cons, h.keys]
theorem VL.length : ∀ {es : List (Int × Int)} {kvs : List (Int × Value)}, VL es kvs → kvs.length = es.length
  | [], u1, e => by rw [show _ = [] from e]; rfl
  | p :: es, u1, zp => by obtain ⟨t, r, e, h⟩ := zp; rw [e, List.length_cons, List.length_cons, h.length]
theorem VL.get : ∀ {es : List (Int × Int)} {kvs : List (Int × Value)}, VL es kvs → ∀ {i : Nat} {p : Int × Int}, es[i]? = some p → ∃ t, kvs[i]? = some (p.1, .int p.2 t)
  | [], u1, u2, i, p, h => by simp at h
  | q :: es, u1, zp, 0, p, hp => by obtain ⟨t, r, e, h⟩ := zp; subst e; cases hp; exact ⟨t, rfl⟩
  | q :: es, u1, zp, i + 1, p, hp => by obtain ⟨t, r, e, h⟩ := zp; subst e; exact h.get (by simpa using hp)
theorem isInt_eq {k j : Int} {t : Tok} : Value.isInt k (.int j t) = decide (k = j) := by
  rw [Bool.eq_iff_iff, decide_eq_true_eq]
  show (j == k) = true ↔ k = j
  rw [beq_iff_eq]; exact eq_comm
theorem DctL.pairs {w : World} : ∀ {es : List (Int × Int)} {l : List DictEntry}, DctL es l → ∃ kvs, Pairs (intKind PR w) l kvs ∧ VL es kvs ∧ ∀ e ∈ l, ∃ k, (intKind PR w).is k e.key = true ∧ e.hash = (intKind PR w).hash k
  | [], l, e => by rw [show l = [] from e]; exact ⟨[], .nil, rfl, fun uu h => nomatch h⟩
  | p :: es, u1, zp => by
    obtain ⟨e, r, t, t', el, h1, h2, h3, h4⟩ := zp
    subst el
    obtain ⟨kvs, g1, g2, g3⟩ := h4.pairs (w := w)
    have hk : (intKind PR w).is p.1 e.key = true := by show Value.isInt p.1 e.key = true; rw [h1, isInt_eq]; simp
    refine ⟨(p.1, .int p.2 t') :: kvs, .cons hk h3 g1, ⟨t', kvs, rfl, g2⟩, fun x hx => ?_⟩
    rcases List.mem_cons.mp hx with rfl | hx
    · exact ⟨p.1, hk, h2⟩
    · exact g3 x hx
theorem Dct.of {w : World} {h : Heap} {a : Addr} {es : List (Int × Int)} (x : Dct h a es) : ∃ kvs ep, h.DictAt (intKind PR w) a kvs ep ∧ VL es kvs := by
  obtain ⟨_, l, o, n, h1, h2, h3, h4, h5⟩ := x
  obtain ⟨kvs, g1, g2, g3⟩ := h4.pairs (w := w)
  exact ⟨kvs, n, ⟨o, l, h1, h2, h3, fun e he => g3 e (Array.mem_toList_iff.mpr he), g1, by rw [g2.keys]; exact h5⟩, g2⟩
theorem Dct.to {w : World} {h : Heap} {a : Addr} {es : List (Int × Int)} {kvs : List (Int × Value)} (x : h.DictOf (intKind PR w) a kvs) (v : VL es kvs) (hf : @LT.lt Nat _ 256 a) : Dct h a es := by
  obtain ⟨o, l, n, h1, h2, h3, h4, h5, h6⟩ := x
  refine ⟨hf, l, o, n, h1, h2, h3, ?_, by rw [← v.keys]; exact h6⟩
  have hk : ∀ e ∈ l.toList, ∃ k, Value.isInt k e.key = true ∧ e.hash = hashInt k := fun e he => h4 e (Array.mem_toList_iff.mp he)
  clear h1 h3 h4 h6
  generalize l.toList = l at h5 hk
  induction h5 generalizing es with
  | nil =>
    cases es with
    | nil => exact rfl
    | cons p es => obtain ⟨t, r, e, _⟩ := v; cases e
  | @cons e kv l kvs g1 g2 g3 ih =>
    cases es with
    | nil => cases (show kv :: kvs = [] from v)
    | cons p es =>
      obtain ⟨t, r, er, v'⟩ := v
      injection er with e1 e2
      subst e1 e2
      obtain ⟨k, k1, k2⟩ := hk e (by simp)
      obtain ⟨u, hu⟩ := Value.isInt_shape (show Value.isInt p.1 e.key = true from g1)
      have : k = p.1 := by rw [hu, isInt_eq] at k1; exact of_decide_eq_true k1
      subst this
      exact ⟨e, l, u, t, rfl, hu, k2, g2, ih v' fun x hx => hk x (List.mem_cons_of_mem _ hx)⟩
noncomputable def lookD (es : List (Int × Int)) (k : Int) : Option Int := (es.find? fun p => p.1 = k).map (·.2)
noncomputable def setD (es : List (Int × Int)) (k v : Int) : List (Int × Int) := if es.any (fun p => p.1 = k) then es.map (fun p => if p.1 = k then (p.1, v) else p) else es ++ [(k, v)]
theorem VL.valueAt : ∀ {es : List (Int × Int)} {kvs : List (Int × Value)}, VL es kvs → ∀ k, (∃ v t, lookD es k = some v ∧ PySem.valueAt kvs k = some (.int v t)) ∨ (lookD es k = none ∧ PySem.valueAt kvs k = none)
  | [], u1, e, k => by rw [show _ = [] from e]; exact .inr ⟨rfl, rfl⟩
  | p :: es, u1, zp, k => by
    obtain ⟨t, r, e, h⟩ := zp
    subst e
    unfold lookD PySem.valueAt
    rw [List.find?_cons, List.find?_cons]
    by_cases q : p.1 = k
    · simp only [q, decide_true]
      exact .inl ⟨p.2, t, rfl, rfl⟩
    · simp only [q, decide_false]
      exact h.valueAt k
theorem VL.stored {es : List (Int × Int)} {kvs : List (Int × Value)} (h : VL es kvs) (k v : Int) (t : Tok) : VL (setD es k v) (PySem.stored kvs k (.int v t)) := by
  have e1 : (kvs.any fun kv => decide (kv.1 = k)) = es.any (fun p => decide (p.1 = k)) := by
    have : ∀ {es : List (Int × Int)} {kvs : List (Int × Value)}, VL es kvs → (kvs.any fun kv => decide (kv.1 = k)) = es.any (fun p => decide (p.1 = k)) := by
      intro es
      induction es with
      | nil => intro kvs e; rw [show kvs = [] from e]; rfl
      | cons p es ih => intro kvs ⟨t, r, e, h⟩; rw [e, List.any_cons, List.any_cons, ih h]
    exact this h
  unfold setD PySem.stored
  rw [e1]
  split
  · have : ∀ {es : List (Int × Int)} {kvs : List (Int × Value)}, VL es kvs → VL (es.map (fun p => if p.1 = k then (p.1, v) else p)) (kvs.map fun kv => if kv.1 = k then (kv.1, .int v t) else kv) := by
      intro es
      induction es with
      | nil => intro kvs e; rw [show kvs = [] from e]; exact rfl
      | cons p es ih =>
        intro kvs ⟨t', r, e, h⟩
        subst e
        rw [List.map_cons, List.map_cons]
        by_cases q : p.1 = k
        · rw [if_pos q, if_pos q]; exact ⟨t, _, rfl, ih h⟩
        · rw [if_neg q, if_neg q]; exact ⟨t', _, rfl, ih h⟩
    exact this h
  · have : ∀ {es : List (Int × Int)} {kvs : List (Int × Value)}, VL es kvs → VL (es ++ [(k, v)]) (kvs ++ [(k, .int v t)]) := by
      intro es
      induction es with
      | nil => intro kvs e; rw [show kvs = [] from e]; exact ⟨t, [], rfl, rfl⟩
      | cons p es ih =>
        intro kvs ⟨t', r, e, h⟩
        subst e
        exact ⟨t', _, rfl, ih h⟩
    exact this h
theorem keyI (k : Int) (t : Tok) (w : World) : (intKind PR w).is k (.int k t) = true := by show Value.isInt k (.int k t) = true; rw [isInt_eq]; simp
section
variable {c : Cx} {n : Nat} {env : Env} {X X₀ own Z : Addr → Prop} {hA : Heap} {os : OsState} {s s' s₀ : Shared} {σ : List (Str × LV)} {d : D} {ds : List D} {pos : Pos} {rest body : List Stmt} {Q : Flow → Shared → Prop}
theorem Bd.livd {x : Str} {a : Addr} {es : List (Int × Int)} (B : Bd c env X₀ own Z hA os s σ) (h : σ.lookup x = some (.dc a es)) : own a ∧ Dct s.heap a es := by
  obtain ⟨vm, _, g⟩ := B.loc
  obtain ⟨v, _, _, p2, p3⟩ := g x _ h
  exact ⟨p2, p3⟩
theorem ev_livd {x : Str} {a : Addr} {es : List (Int × Int)} (B : Bd c env X₀ own Z hA os s σ) (hs : σ.lookup x = some (.dc a es)) (hk : autoParam (env.scope.kind = .function) tacR) (hx : autoParam (isLC (env.kindOf x) = true) tacR) (hd : autoParam ((x == ("__debug__" : Str)) = false) tacD) :
    EvV c n s (eval (.Name x pos) env) (.ref a) := fun s' e I =>
  ld_name (B.ext e I) hk hx hs (fun v ok => ⟨.refl _, I, ok.1⟩) hd
theorem ev_freezeD {x : Str} {a : Addr} {es : List (Int × Int)} {xp : Pos} (B : Bd c env X₀ own Z hA os s σ) (h : σ.lookup x = some (.dc a es)) (hk : autoParam (env.scope.kind = .function) tacR) (hx : autoParam (isLC (env.kindOf x) = true) tacR) (hd : autoParam ((x == ("__debug__" : Str)) = false) tacD) :
    EvD c n X₀ s (eval (.Name x xp) env) (.dct es) := (ev_livd (n := n) (pos := xp) B h hk hx hd).imp fun s1 v E I e => by
  obtain ⟨o, hd⟩ := (B.ext E I).livd h
  exact ⟨a, e, B.dis a o, hd⟩
theorem st_dict {x : Str} {p dp : Pos} (B : Bd c env X₀ own Z hA os s σ)
    (h : ∀ r s', ¬ own r → ¬ X₀ r → Bd c env X₀ (fun a => own a ∨ a = r) Z hA os s' ((x, .dc r []) :: σ) → W c n (execs rest env) Q s')
    (hk : autoParam (env.scope.kind = .function) tacR) (hx : autoParam (isLC (env.kindOf x) = true) tacR) (hs : autoParam (swapsWith (.Dict [] [] dp) (some (.Name x p)) pos.line env = pure false) tacR) :
    W c n (execs (.Assign [.Name x p] (.Dict [] [] dp) pos :: rest) env) Q s := by
  refine wpAny_execs_cons (wpAny_Assign_Name (wpAny_Dict_empty ?_) hs)
  have e1 := ext_push s { cls := .type "dict", data := .dict #[] }
  have I1 : Inv c { s with heap := s.heap.push { cls := .type "dict", data := .dict #[] } } := B.inv.keep e1.keep B.inv.bare
  generalize ha : s.heap.objs.size = a
  have fr : s.heap.get? a = none := ha ▸ size_none _
  have far : @LT.lt Nat _ 256 a := ha ▸ B.inv.size
  have hd : Dct (s.heap.push { cls := .type "dict", data := .dict #[] }) a [] := ⟨far, #[], _, 0, ha ▸ Heap.get?_push_size _ rfl, ⟨rfl, rfl, rfl⟩, rfl, rfl, List.nodup_nil⟩
  have no : ¬ (X₀ a ∨ own a) := fun q => by have := B.ex a q; rw [fr] at this; cases this
  have B1 := B.ext e1 I1
  have B2 : Bd c env X₀ (fun b => own b ∨ b = a) Z hA os { s with heap := s.heap.push { cls := .type "dict", data := .dict #[] } } σ := { B1 with
    mine := fun b h => h.elim (B.mine b) fun q => q ▸ kp_none B.chg fr
    ex := fun b h => by
      rcases h with h | h | h
      · exact B1.ex b (.inl h)
      · exact B1.ex b (.inr h)
      · obtain ⟨_, l, o, k, ho, _⟩ := hd; rw [h, ho]; rfl
    far := fun b h => h.elim (B.far b) fun q => q ▸ far
    dis := fun b h => h.elim (B.dis b) fun q => q ▸ fun z => no (.inl z)
    ownL := .inl B.ownL
    ownC := fun y b hb => .inl (B.ownC y b hb)
    loc := by
      obtain ⟨vm, F, g⟩ := B.loc
      refine ⟨vm, F.kp (Z := fun uu => False) (.of e1.keep) id (fun uu uu uu q => q), fun y lv q => ?_⟩
      obtain ⟨u, p1, p2⟩ := g y lv q
      refine ⟨u, p1, LV.ok.mv ⟨fun b o uu eb hc => e1.keep.get eb hc, fun b nb sb q => ?_⟩ (fun b o uu uu q1 q2 => e1.keep.get q1 q2) (fun uu z => .inl z) p2⟩
      rcases q with q | q | q
      · exact nb (.inl q)
      · exact nb (.inr q)
      · rw [q, fr] at sb; cases sb }
  refine st_name (lv := .dc a []) B2 hk hx ⟨rfl, .inr rfl, hd⟩ (fun s2 B3 => h a s2 (fun q => no (.inr q)) (fun q => no (.inl q)) B3) ?_
  intro b hb
  have hb : b = a := mem1 hb
  subst hb
  exact ⟨fun q => no (.inr (q ▸ B.ownL)), fun y cc hc q => no (.inr (q ▸ B.ownC y cc hc))⟩
theorem Bd.changeD {x : Str} {a : Addr} {es es' : List (Int × Int)} {h' : Heap} {t : Tok} (B : Bd c env X₀ own Z hA os s ((x, .dc a es) :: σ)) (hs : Heap.SameBut a s.heap h') (hn : Dct h' a es')
    (hap : ∀ y b es, σ.lookup y = some (.dc b es) → y ≠ x → b ≠ a) (hax : ∀ y b dx ds i0, σ.lookup y = some (.ac b dx ds i0) → dx ≠ a) : Bd c env X₀ own Z hA os { s with heap := h', toks := t } ((x, .dc a es') :: σ) := by
  have hx : ((x, LV.dc a es) :: σ).lookup x = some (.dc a es) := by rw [List.lookup_cons, beq_self_eq_true]
  obtain ⟨ow, hd⟩ := B.livd hx
  have kp : Kp own s.heap h' := .same hs ow
  obtain ⟨vm, F, g⟩ := B.loc
  obtain ⟨neL, neC⟩ := B.dcs x _ a hx (List.mem_cons_self ..)
  refine { B with
    inv := B.inv.sameBut hs (B.far a ow)
    chg := B.chg.trans kp B.mine
    dcs := fun y lv b q hb => by
      rcases lookup_cons_or q with ⟨rfl, e⟩ | ⟨ne, q⟩
      · subst e; exact B.dcs y _ b hx hb
      · exact B.dcs y lv b (by rw [List.lookup_cons, beq_eq_false_iff_ne.mpr ne]; exact q) hb
    ex := fun b hb => ?_
    loc := ⟨vm, ⟨let ⟨m, p, q⟩ := F.ns; ⟨m, p.sameBut hs (Ne.symm neL), q⟩, fun y cc hy e => (F.cell y cc hy e).sameBut hs (Ne.symm (neC y cc (mem_of_lookup e))), F.apart, F.above, F.has⟩, fun y lv q => ?_⟩ }
  · by_cases q : b = a
    · subst q; obtain ⟨_, l, o, k, ho, _⟩ := hn; rw [show ({ s with heap := h', toks := t } : Shared).heap.get? b = _ from ho]; rfl
    · rw [show ({ s with heap := h', toks := t } : Shared).heap.get? b = s.heap.get? b from hs.2 b q]; exact B.ex b hb
  · rcases lookup_cons_or q with ⟨rfl, rfl⟩ | ⟨ne, q⟩
    · obtain ⟨v, p1, p2, _⟩ := g y _ hx
      exact ⟨v, p1, p2, ow, hn⟩
    · have hy : ((x, LV.dc a es) :: σ).lookup y = some lv := by rw [List.lookup_cons, beq_eq_false_iff_ne.mpr ne]; exact q
      obtain ⟨v, p1, p2⟩ := g y lv hy
      refine ⟨v, p1, ?_⟩
      cases lv with
      | tr d => exact Tr.mv (.same hs (.inr ow)) d v p2
      | va u => exact p2
      | ls b ds =>
        obtain ⟨q1, q2, us, ⟨k, q3⟩, q4⟩ := p2
        refine ⟨q1, q2, us, ⟨k, (hs.2 b ?_).trans q3⟩, TrL.mv (.same hs (.inr ow)) _ _ q4⟩
        rintro rfl
        obtain ⟨_, l, o, kk, ho, hc, _⟩ := hd
        rw [ho] at q3; cases q3
        have e := hc.1
        injection e with e
        exact absurd e (by decide)
      | ac b dx es2 i0 =>
        obtain ⟨q1, q2, q3, us, q4, q5⟩ := p2
        obtain ⟨_, l, o, kk, ho, hc, hdat, _⟩ := hd
        refine ⟨q1, q2, q3, us, q4.keep (fun o' e uu => (hs.2 b ?_).trans e) (fun o' e uu => (hs.2 dx (hax y b dx es2 i0 q)).trans e), TrL.mv (.same hs (.inr ow)) _ _ q5⟩
        rintro rfl
        obtain ⟨_, _, ⟨m, q6⟩, _⟩ := q4
        rw [ho] at q6; cases q6
        cases hdat
      | dc b es2 =>
        obtain ⟨q1, q2, hf, l, o, k, q3, q4⟩ := p2
        exact ⟨q1, q2, hf, l, o, k, (hs.2 b (hap y b es2 q ne)).trans q3, q4⟩
noncomputable def LV.isDc : LV → Bool
  | .dc .. => true
  | .ac .. => true
  | _ => false
theorem haxD_of {x : Str} {a : Addr} {es : List (Int × Int)} (hx : σ.lookup x = some (.dc a es)) (h : (σ.all fun p => (p.1 == x) || !p.2.isDc) = true) : ∀ y b dx ds i0, σ.lookup y = some (.ac b dx ds i0) → dx ≠ a := fun y b dx ds i0 hy => by
  have this : ((y == x) || false) = true := List.all_eq_true.mp h (y, .ac b dx ds i0) (mem_of_lookup hy)
  rw [Bool.or_false] at this
  have hyx : y = x := eq_of_beq this
  subst hyx
  rw [hx] at hy; cases hy
theorem hapD_of {x : Str} {a : Addr} (h : (σ.all fun p => (p.1 == x) || !p.2.isDc) = true) : ∀ y b es, σ.lookup y = some (.dc b es) → y ≠ x → b ≠ a := fun y b es hy ne => by
  have this : ((y == x) || false) = true := List.all_eq_true.mp h (y, .dc b es) (mem_of_lookup hy)
  rw [Bool.or_false] at this
  exact absurd (eq_of_beq this) ne
end
end Mine
end
section
open PySem PySem.W PySem.Calls PyProof.Rows
set_option linter.unusedVariables false
set_option maxRecDepth 100000
namespace Mine
set_option genSizeOf false
set_option genInjectivity false
set_option tactic.hygienic false
section
variable {c : Cx} {n : Nat} {env : Env} {X X₀ own Z : Addr → Prop} {hA : Heap} {os : OsState} {s s' s₀ : Shared} {σ : List (Str × LV)} {d : D} {ds : List D} {pos : Pos} {rest body : List Stmt} {Q : Flow → Shared → Prop}
theorem far_mod {a : Addr} (h : @LT.lt Nat _ 256 a) : (a == sysModules) = false := by
  rw [beq_eq_false_iff_ne]
  rintro rfl
  exact absurd h (by decide)
theorem st_dset {x : Str} {a : Addr} {es : List (Int × Int)} {xp tp : Pos} {e i : Expr} {k v : Int} (B : Bd c env X₀ own Z hA os s σ) (hl : σ.lookup x = some (.dc a es)) (he : EvD c n (fun a => X₀ a ∨ own a) s (eval e env) (.int v)) (hi : EvD c n (fun a => X₀ a ∨ own a) s (eval i env) (.int k)) (hsz : es.length ≤ 1000)
    (hap : (σ.all fun p => (p.1 == x) || !p.2.isDc) = true) (h : ∀ s', Bd c env X₀ own Z hA os s' ((x, .dc a (setD es k v)) :: σ) → W c n (execs rest env) Q s')
    (hx' : autoParam (isLC (env.kindOf x) = true) tacR) (hkd : autoParam (env.scope.kind = .function) tacR) (hd : autoParam ((x == ("__debug__" : Str)) = false) tacD)
    (hsw : autoParam (swapsWith e (some (.Subscript (.Name x xp) i tp)) pos.line env = pure false) tacR) :
    W c n (execs (.Assign [.Subscript (.Name x xp) i tp] e pos :: rest) env) Q s := by
  refine wpAny_execs_cons (wpAny_Assign_Subscript (wz (he s (.refl _) B.inv) (fun u s1 e1 I1 zq => wz (ev_livd (n := n) B hl hkd hx' hd s1 e1 I1) (fun ov s2 e2 I2 eo => wz (hi s2 (e1.trans e2) I2) (fun iv s3 e3 I3 zr => ?_)))) hsw)
  obtain ⟨tk, ei⟩ := zr
  obtain ⟨t1, ev⟩ := zq
  subst eo ei ev
  have B3 := B.ext ((e1.trans e2).trans e3) I3
  obtain ⟨_, hd3⟩ := B3.livd hl
  obtain ⟨kvs, ep, hat, hv⟩ := hd3.of (w := c.w)
  refine wpAny_setItem_pairs (knd := intKind PR c.w) (k := k) (keyI k tk c.w) hat.dictOf (fun h' hm hs => ?_) (by rw [hv.length]; show es.length ≤ 2 ^ 24; omega)
  exact h _ ((B3.front hl).changeD hs (Dct.to hm (hv.stored k v t1) hd3.1) (hapD_of hap) (haxD_of hl hap))
theorem ev_dget {x : Str} {a : Addr} {es : List (Int × Int)} {xp apos : Pos} {e1 e2 : Expr} {k v : Int} (B : Bd c env X₀ own Z hA os s σ) (hl : σ.lookup x = some (.dc a es)) (h1 : EvD c n (fun a => X₀ a ∨ own a) s (eval e1 env) (.int k)) (h2 : EvD c n (fun a => X₀ a ∨ own a) s (eval e2 env) (.int v))
    (hx' : autoParam (isLC (env.kindOf x) = true) tacR) (hkd : autoParam (env.scope.kind = .function) tacR) (hd : autoParam ((x == ("__debug__" : Str)) = false) tacD) (hargs : autoParam (backTo pos (starEach [e1, e2] env) = [(false, eval e1 env), (false, eval e2 env)]) tacR)
    (hline : autoParam ((apos.endLine == pos.line) = true) tacR) :
    EvD c n (fun a => X₀ a ∨ own a) s (eval (.Call (.Attribute (.Name x xp) "get" apos) [e1, e2] [] pos) env) (.int ((lookD es k).getD v)) := fun s' e I => by
  refine call_attr (wz (ev_livd (n := n) B hl hkd hx' hd s' e I) (fun ov s1 k1 I1 t1 => ?_)) hargs rfl rfl hline
  subst t1
  obtain ⟨ow, hd1⟩ := (B.ext (e.trans k1) I1).livd hl
  obtain ⟨kvs, ep, hat, hv⟩ := hd1.of (w := c.w)
  refine getMethod_builtin hat.dictOf.typeIs F.plainAttrs_dict F.slot_dict_get F.type_dict_get hat.dictOf.mapOf.noDict ?_
  refine wpAny_dict_get2 (knd := intKind PR c.w) (far_mod (B.far a ow)) (wz (h1 s1 (e.trans k1) I1) (fun u1 s2 k2 I2 zq => wz (h2 s2 ((e.trans k1).trans k2) I2) (fun u2 s3 k3 I3 zr => ?_)))
  obtain ⟨t3, ev3⟩ := zr
  obtain ⟨t2, ev2⟩ := zq
  subst ev2 ev3
  obtain ⟨_, hd3⟩ := (B.ext (((e.trans k1).trans k2).trans k3) I3).livd hl
  obtain ⟨kvs, ep, hat, hv⟩ := hd3.of (w := c.w)
  refine ⟨k, _, keyI k t2 c.w, hat.dictOf.mapOf, ((k1.trans k2).trans k3).trans (.toks _ _), I3.toks _, ?_⟩
  rcases hv.valueAt k with ⟨v', t', q1, q2⟩ | ⟨q1, q2⟩
  · rw [q1, q2]; exact ⟨t', rfl⟩
  · rw [q1, q2]; exact ⟨t3, rfl⟩
theorem ev_din {x : Str} {a : Addr} {es : List (Int × Int)} {xp : Pos} {l : Expr} {k : Int} {whole : Sem Value} (B : Bd c env X₀ own Z hA os s σ) (hl : σ.lookup x = some (.dc a es)) (h1 : EvD c n (fun a => X₀ a ∨ own a) s (eval l env) (.int k))
    (hx' : autoParam (isLC (env.kindOf x) = true) tacR) (hkd : autoParam (env.scope.kind = .function) tacR) (hd : autoParam ((x == ("__debug__" : Str)) = false) tacD) (hm : autoParam (behindInMarks .In (.Name x xp) = false) tacU) :
    EvB c n s (isTrue (.Compare l [.In] [.Name x xp] pos) env whole) (lookD es k).isSome := fun s' e I => by
  refine wpAny_isTrue_Compare1 (wz (h1 s' e I) (fun u s1 e1 I1 zq => wz (ev_livd (n := n) B hl hkd hx' hd s1 (e.trans e1) I1) (fun ov s2 e2 I2 eo => ?_))) hm
  obtain ⟨t, ev⟩ := zq
  subst ev eo
  obtain ⟨ow, hd2⟩ := (B.ext ((e.trans e1).trans e2) I2).livd hl
  obtain ⟨kvs, ep, hat, hv⟩ := hd2.of (w := c.w)
  refine wpAny_in_of (knd := intKind PR c.w) (keyI k t c.w) (far_mod (B.far a ow)) hat.dictOf.mapOf ?_
  refine wpAny_truthy_bool ⟨(e1.trans e2).trans (.toks _ _), I2.toks _, ?_⟩
  rcases hv.valueAt k with ⟨v', t', q1, q2⟩ | ⟨q1, q2⟩
  · rw [q1, q2]; rfl
  · rw [q1, q2]; rfl
theorem st_daug {x : Str} {a : Addr} {es : List (Int × Int)} {xp tp : Pos} {e i : Expr} {k p q : Int} (B : Bd c env X₀ own Z hA os s σ) (hl : σ.lookup x = some (.dc a es)) (hi : EvD c n (fun a => X₀ a ∨ own a) s (eval i env) (.int k)) (hp : lookD es k = some p) (he : EvD c n (fun a => X₀ a ∨ own a) s (eval e env) (.int q)) (hsz : es.length ≤ 1000)
    (hap : (σ.all fun p => (p.1 == x) || !p.2.isDc) = true) (h : ∀ s', Bd c env X₀ own Z hA os s' ((x, .dc a (setD es k (p + q))) :: σ) → W c n (execs rest env) Q s')
    (hx' : autoParam (isLC (env.kindOf x) = true) tacR) (hkd : autoParam (env.scope.kind = .function) tacR) (hd : autoParam ((x == ("__debug__" : Str)) = false) tacD)
    (hst : autoParam (∀ ov iv new, augStore i ov iv new = (do holding [new, ov, iv] (setItem ov iv new); release [new, ov, iv] []; pure .next)) tacI) :
    W c n (execs (.AugAssign (.Subscript (.Name x xp) i tp) .Add e pos :: rest) env) Q s := by
  refine wpAny_execs_cons (wpAny_AugAssign_SubscriptAny (wz (ev_livd (n := n) B hl hkd hx' hd s (.refl _) B.inv) (fun ov s1 e1 I1 eo => wz (hi s1 e1 I1) (fun iv s2 e2 I2 zr => ?_))) hst)
  obtain ⟨tk, ei⟩ := zr
  subst eo ei
  have B2 := B.ext (e1.trans e2) I2
  obtain ⟨ow, hd2⟩ := B2.livd hl
  obtain ⟨kvs, ep, hat, hv⟩ := hd2.of (w := c.w)
  rcases hv.valueAt k with ⟨v', t', q1, q2⟩ | ⟨q1, q2⟩
  · rw [hp] at q1; cases q1
    refine wpAny_getItem_of (knd := intKind PR c.w) (keyI k tk c.w) hat.dictOf.mapOf q2 ?_
    have B2' := B2.ext (.toks s2 (s2.toks + 1)) (I2.toks _)
    refine wz (he _ ((e1.trans e2).trans (.toks s2 (s2.toks + 1))) (I2.toks _)) (fun v s3 e3 I3 zr => ?_)
    obtain ⟨t3, ev⟩ := zr
    subst ev
    refine iadd_int ?_
    have B3 := B2'.ext (e3.trans (.toks s3 (s3.toks + 1))) (I3.toks _)
    obtain ⟨_, hd3⟩ := B3.livd hl
    obtain ⟨kvs3, ep3, hat3, hv3⟩ := hd3.of (w := c.w)
    refine wpAny_setItem_pairs (knd := intKind PR c.w) (k := k) (keyI k tk c.w) hat3.dictOf (fun h' hm hs => ?_) (by rw [hv3.length]; show es.length ≤ 2 ^ 24; omega)
    exact h _ ((B3.front hl).changeD hs (Dct.to hm (hv3.stored k (p + q) _) hd3.1) (hapD_of hap) (haxD_of hl hap))
  · rw [hp] at q1; cases q1
end
end Mine
end
section
open PySem PySem.W PySem.Calls PyProof.Rows
set_option linter.unusedVariables false
set_option maxRecDepth 100000
namespace Mine
set_option genSizeOf false
set_option genInjectivity false
set_option tactic.hygienic false
section
variable {c : Cx} {n : Nat} {env : Env} {X X₀ own Z : Addr → Prop} {hA : Heap} {os : OsState} {s s' s₀ : Shared} {σ : List (Str × LV)} {d : D} {ds : List D} {pos : Pos} {rest body : List Stmt} {Q : Flow → Shared → Prop}
theorem dictAt_obj {w : World} {h h' : Heap} {a : Addr} {kvs : List (Int × Value)} {ep : Nat} (x : h.DictAt (intKind PR w) a kvs ep) (k : ∀ o, h.get? a = some o → o.cls ≠ .none → h'.get? a = some o) : h'.DictAt (intKind PR w) a kvs ep :=
  let ⟨o, es, h1, h2, h3⟩ := x; ⟨o, es, k o h1 (by rw [h2.1]; intro e; cases e), h2, h3⟩
noncomputable def JItems (w : World) (it dA : Addr) (X : Addr → Prop) (rest : List D) (s : Shared) : Prop := ∃ i ep kvs es ok ov, ¬ X dA ∧ IsItemIter s.heap it dA i kvs.length ep ok ov ∧ s.heap.DictAt (intKind PR w) dA kvs ep ∧ VL es kvs ∧ rest = (es.drop i).map prD
theorem isTupE_ok {e : Expr} (h : isTupE e = true) : ∃ elts k p, e = .Tuple elts k p := by
  cases e <;> first | exact ⟨_, _, _, rfl⟩ | exact absurd h Bool.false_ne_true
theorem iter_items {it dA : Addr} (far : @LT.lt Nat _ 256 it) : IterOk c n it (fun a => a = it) (JItems c.w it dA) true where
  far := fun a e => e ▸ far
  next := fun X d rest s target hX hex htp zp I => by
    obtain ⟨i, ep, kvs, es, ok, ov, nd, hit, hd, hv, hr⟩ := zp
    cases hp : es[i]? with
    | none =>
      rw [List.drop_of_length_le (List.getElem?_eq_none_iff.mp hp)] at hr
      cases hr
    | some p =>
      obtain ⟨t, hx⟩ := hv.get hp
      have hil : i < es.length := by
        apply Nat.lt_of_not_le
        intro q
        rw [List.getElem?_eq_none q] at hp; cases hp
      have hpe : es[i] = p := by rw [List.getElem?_eq_getElem hil] at hp; exact Option.some.inj hp
      rw [List.drop_eq_getElem_cons hil, hpe, List.map_cons] at hr
      injection hr with h1 h2
      subst h1
      refine wpAny_pyNext_items_item hit hd hx fun key h' hkey hout htup hsz hk => ⟨_, rfl, ?_⟩
      obtain ⟨tk, rfl⟩ := Value.isInt_shape (show Value.isInt p.1 key = true from hkey)
      obtain ⟨elts, k1, p1, rfl⟩ := isTupE_ok (htp rfl)
      · refine wpAny_letOwnedTupleGo_items hout fun h2' hit2 hs2 => ?_
        have ne : s.heap.objs.size ≠ it := fun q => by
          have := Heap.lt_size hit
          rw [← q] at this; exact Nat.lt_irrefl _ this
        have kp : Kp (fun a => a = it) s.heap h2' := fun b o e => by
          by_cases q : b = it
          · exact .inl q
          · exact .inr (.inl (hs2.extBut b o q (hk b o q e)))
        have dne : dA ≠ it := fun q => nd (hX dA q)
        refine ⟨I.kp (s' := { s with heap := h2' }) kp (fun a e => e ▸ far) I.bare, rfl, kp, fun a e => ?_, ⟨i + 1, ep, kvs, es, _, _, nd, hit2, dictAt_obj hd fun o q1 q2 => kp.get q1 dne q2, hv, h2⟩, s.heap.objs.size, #[.int p.1 tk, .int p.2 t], rfl, fun q => ?_, ⟨0, hs2.extBut _ _ ne htup⟩, ?_⟩
        · rw [e, show _ = some _ from hit2]; rfl
        · have := hex _ q
          rw [size_none] at this; cases this
        · exact ⟨.int p.1 tk, [.int p.2 t], rfl, ⟨tk, rfl⟩, .int p.2 t, [], rfl, ⟨t, rfl⟩, rfl⟩
  stop := fun X s zp I => by
    obtain ⟨i, ep, kvs, es, ok, ov, nd, hit, hd, hv, hr⟩ := zp
    have hx : kvs[i]? = none := by
      have := congrArg List.length hr
      simp at this
      rw [List.getElem?_eq_none_iff, hv.length]; omega
    refine wpAny_pyNext_items_end rfl hit hd hx fun h' hs => ?_
    have kp : Kp (fun a => a = it) s.heap h' := .but hs rfl
    exact ⟨rfl, I.kp kp (fun a e => e ▸ far) I.bare, rfl, kp⟩
  keep := fun X X' rest s s' zp mv ki => by
    obtain ⟨i, ep, kvs, es, ok, ov, nd, hit, hd, hv, hr⟩ := zp
    exact ⟨i, ep, kvs, es, ok, ov, mv.open_ dA nd (by obtain ⟨o, _, ho, _⟩ := hd; rw [ho]; rfl), ki it _ rfl hit (by intro e; cases e), dictAt_obj hd fun o e hc => mv.get dA o nd e hc, hv, hr⟩
theorem ei_items {o : Expr} {apos : Pos} {es : List (Int × Int)} (ho : EvD c n X s₀ (eval o env) (.dct es)) (hbase : autoParam (attributeBase o "items" env (eval o env) = eval o env) tacR) (hline : autoParam ((apos.endLine == pos.line) = true) tacR) :
    EvI c n X s₀ (eval (.Call (.Attribute o "items" apos) [] [] pos) env) (es.map prD) true := fun s e I => by
  have key : Ev c n s₀ (eval (.Call (.Attribute o "items" apos) [] [] pos) env) (fun s v => ∃ vw dA, v = .ref vw ∧ s.heap.IsItemsView vw dA ∧ DctAt s.heap X es dA) := by
    refine ev_bmeth (T := "dict") (id := "dict.items") (trees := []) (RA := fun uu vs => vs = []) ho (fun s1 s2 v e h => h.ext e) (fun s1 v zp => by obtain ⟨a, ev, na, _, l, ob, k, h1, h2, _⟩ := zp; subst ev; exact ⟨⟨ob, h1, h2.1⟩, fun b e => by cases e; exact ⟨ob, h1, h2.2.1⟩⟩) F.plainAttrs_dict F.slot_dict_items F.type_dict_items rfl rfl (by simp) (fun s' e' I' => spliced_nil ⟨.refl _, I', rfl⟩) ?_ hbase hline
    rintro v vs s1 e1 I1 t rfl s2 e2 I2
    have t2 := t.ext e2
    obtain ⟨a, rfl, na, hd⟩ := t2
    obtain ⟨kvs, ep, hat, hv⟩ := hd.of (w := c.w)
    have E := ext_push s2 { cls := .type "dict_items", data := .fields #[.ref a] }
    refine call_meetsIn F.slot_dict_items hat.dictOf.typeIs F.entry_dict_items (F.args_dict_items_1 _) (meets_dict_items (intKind PR c.w) a (far_mod hd.1)) ⟨⟨kvs, hat.dictOf⟩, E, I2.keep E.keep I2.bare, s2.heap.objs.size, a, rfl, ⟨_, Heap.get?_push_size _ rfl, rfl, rfl⟩, DctAt.mv (.keep E.keep) ⟨na, hd⟩⟩
  refine wz (key s e I) (fun v s1 e1 I1 zr => ?_)
  obtain ⟨vw, dA, ev, hvw, nd, hd⟩ := zr
  subst ev
  obtain ⟨kvs, ep, hat, hv⟩ := hd.of (w := c.w)
  refine wpAny_pyIter_items hvw hat ?_
  have E := ext_push s1 { cls := .type "dict_itemiterator", data := .fields #[.none, .bool false, .ref dA, .int 0 0, .int kvs.length 0, .int ep 0, .none, .none] }
  refine ⟨e1.trans E, I1.keep E.keep I1.bare, s1.heap.objs.size, fun b => b = s1.heap.objs.size, JItems c.w s1.heap.objs.size dA, rfl, fun b hb => ⟨?_, ?_⟩, iter_items I1.size, 0, ep, kvs, es, .none, .none, ?_, Heap.get?_push_size _ rfl, dictAt_obj hat fun o q1 q2 => E.keep.get q1 q2, hv, rfl⟩
  · subst hb; exact ext_none (e.trans e1) (size_none _)
  · subst hb; rw [show _ = some _ from Heap.get?_push_size _ rfl]; rfl
  · rintro (q | q)
    · exact nd q
    · obtain ⟨o, _, ho, _⟩ := hat
      rw [q, size_none] at ho; cases ho
noncomputable def JVals (w : World) (it dA : Addr) (X : Addr → Prop) (rest : List D) (s : Shared) : Prop := ∃ i ep kvs es, ¬ X dA ∧ s.heap.IsValIter it dA i kvs.length ep ∧ s.heap.DictAt (intKind PR w) dA kvs ep ∧ VL es kvs ∧ rest = (es.drop i).map fun p => D.int p.2
theorem iter_vals {it dA : Addr} (far : @LT.lt Nat _ 256 it) : IterOk c n it (fun a => a = it) (JVals c.w it dA) where
  far := fun a e => e ▸ far
  next := fun X d rest s target hX hex htp zp I => by
    obtain ⟨i, ep, kvs, es, nd, hit, hd, hv, hr⟩ := zp
    cases hp : es[i]? with
    | none =>
      rw [List.drop_of_length_le (List.getElem?_eq_none_iff.mp hp)] at hr
      cases hr
    | some p =>
      obtain ⟨t, hx⟩ := hv.get hp
      have hil : i < es.length := by
        apply Nat.lt_of_not_le
        intro q
        rw [List.getElem?_eq_none q] at hp; cases hp
      have hpe : es[i] = p := by rw [List.getElem?_eq_getElem hil] at hp; exact Option.some.inj hp
      rw [List.drop_eq_getElem_cons hil, hpe, List.map_cons] at hr
      injection hr with h1 h2
      subst h1
      refine wpAny_pyNext_values_item hit hd hx fun h' hit' hs => ⟨_, rfl, ?_⟩
      have kp : Kp (fun a => a = it) s.heap h' := .same hs rfl
      have dne : dA ≠ it := fun q => nd (hX dA q)
      obtain ⟨o, ho, hc, hdt⟩ := id hit'
      refine letGo_plain (T := "dict_valueiterator") ho hc (by decide) ⟨I.kp (s' := { s with heap := h' }) kp (fun a e => e ▸ far) I.bare, rfl, kp, fun a e => by rw [e, show _ = some o from ho]; rfl, ⟨i + 1, ep, kvs, es, nd, hit', dictAt_obj hd fun o q1 q2 => kp.get q1 dne q2, hv, h2⟩, t, rfl⟩
  stop := fun X s zp I => by
    obtain ⟨i, ep, kvs, es, nd, hit, hd, hv, hr⟩ := zp
    have hx : kvs[i]? = none := by
      have := congrArg List.length hr
      simp at this
      rw [List.getElem?_eq_none_iff, hv.length]; omega
    refine wpAny_pyNext_values_end rfl hit hd hx fun h' hs => ?_
    have kp : Kp (fun a => a = it) s.heap h' := .but hs rfl
    exact ⟨rfl, I.kp kp (fun a e => e ▸ far) I.bare, rfl, kp⟩
  keep := fun X X' rest s s' zp mv ki => by
    obtain ⟨i, ep, kvs, es, nd, hit, hd, hv, hr⟩ := zp
    exact ⟨i, ep, kvs, es, mv.open_ dA nd (by obtain ⟨o, _, ho, _⟩ := hd; rw [ho]; rfl), let ⟨o, ho, hc, hdt⟩ := hit; ⟨o, ki it o rfl ho (by rw [hc]; intro e; cases e), hc, hdt⟩, dictAt_obj hd fun o e hc => mv.get dA o nd e hc, hv, hr⟩
theorem ei_vals {o : Expr} {apos : Pos} {es : List (Int × Int)} (ho : EvD c n X s₀ (eval o env) (.dct es)) (hbase : autoParam (attributeBase o "values" env (eval o env) = eval o env) tacR) (hline : autoParam ((apos.endLine == pos.line) = true) tacR) :
    EvI c n X s₀ (eval (.Call (.Attribute o "values" apos) [] [] pos) env) (es.map fun p => D.int p.2) := fun s e I => by
  have key : Ev c n s₀ (eval (.Call (.Attribute o "values" apos) [] [] pos) env) (fun s v => ∃ vw dA, v = .ref vw ∧ s.heap.IsValuesView vw dA ∧ DctAt s.heap X es dA) := by
    refine ev_bmeth (T := "dict") (id := "dict.values") (trees := []) (RA := fun uu vs => vs = []) ho (fun s1 s2 v e h => h.ext e) (fun s1 v zp => by obtain ⟨a, ev, na, _, l, ob, k, h1, h2, _⟩ := zp; subst ev; exact ⟨⟨ob, h1, h2.1⟩, fun b e => by cases e; exact ⟨ob, h1, h2.2.1⟩⟩) F.plainAttrs_dict F.slot_dict_values F.type_dict_values rfl rfl (by simp) (fun s' e' I' => spliced_nil ⟨.refl _, I', rfl⟩) ?_ hbase hline
    rintro v vs s1 e1 I1 t rfl s2 e2 I2
    have t2 := t.ext e2
    obtain ⟨a, rfl, na, hd⟩ := t2
    obtain ⟨kvs, ep, hat, hv⟩ := hd.of (w := c.w)
    have E := ext_push s2 { cls := .type "dict_values", data := .fields #[.ref a] }
    refine call_meetsIn F.slot_dict_values hat.dictOf.typeIs F.entry_dict_values (F.args_dict_values_1 _) (meets_dict_values (intKind PR c.w) a (far_mod hd.1)) ⟨⟨kvs, hat.dictOf⟩, E, I2.keep E.keep I2.bare, s2.heap.objs.size, a, rfl, ⟨_, Heap.get?_push_size _ rfl, rfl, rfl⟩, DctAt.mv (.keep E.keep) ⟨na, hd⟩⟩
  refine wz (key s e I) (fun v s1 e1 I1 zr => ?_)
  obtain ⟨vw, dA, ev, hvw, nd, hd⟩ := zr
  subst ev
  obtain ⟨kvs, ep, hat, hv⟩ := hd.of (w := c.w)
  refine wpAny_pyIter_values hvw hat ?_
  have E := ext_push s1 { cls := .type "dict_valueiterator", data := .fields #[.ref dA, .int 0 0, .int kvs.length 0, .int ep 0] }
  refine ⟨e1.trans E, I1.keep E.keep I1.bare, s1.heap.objs.size, fun b => b = s1.heap.objs.size, JVals c.w s1.heap.objs.size dA, rfl, fun b hb => ⟨?_, ?_⟩, iter_vals I1.size, 0, ep, kvs, es, ?_, ⟨_, Heap.get?_push_size _ rfl, rfl, rfl⟩, dictAt_obj hat fun o q1 q2 => E.keep.get q1 q2, hv, rfl⟩
  · subst hb; exact ext_none (e.trans e1) (size_none _)
  · subst hb; rw [show _ = some _ from Heap.get?_push_size _ rfl]; rfl
  · rintro (q | q)
    · exact nd q
    · obtain ⟨o, _, ho, _⟩ := hat
      rw [q, size_none] at ho; cases ho
end
end Mine
end
section
open PySem PySem.W PySem.Calls PyProof.Rows
set_option linter.unusedVariables false
set_option maxRecDepth 100000
namespace Mine
set_option genSizeOf false
set_option genInjectivity false
set_option tactic.hygienic false
theorem ok_count : R_count.Ok ["callers"] where
  mem := inF 12 rfl
  cl := rfl
  bind := fun kV doc pm an ct vs h => by
    obtain ⟨a, rfl⟩ := len1 h
    rfl
  kinds := by rfl
  nodup := by decide
  cnodup := by decide
  celled := by rfl
  co := rfl
  gen := rfl
  fun_ := rfl
theorem ok_callers : R_callers.Ok ["target", "source"] where
  mem := inF 11 rfl
  cl := rfl
  bind := fun kV doc pm an ct vs h => by
    obtain ⟨a, b, rfl⟩ := len2 h
    rfl
  kinds := by rfl
  nodup := by decide
  cnodup := by decide
  celled := by rfl
  co := rfl
  gen := rfl
  fun_ := rfl
theorem ok_stats : R_stats.Ok ["target", "source"] where
  mem := inF 10 rfl
  cl := rfl
  bind := fun kV doc pm an ct vs h => by
    obtain ⟨a, b, rfl⟩ := len2 h
    rfl
  kinds := by rfl
  nodup := by decide
  cnodup := by decide
  celled := by rfl
  co := rfl
  gen := rfl
  fun_ := rfl
theorem count_fn {c : Cx} (O : c.Ok) (es : List (Int × Int)) : Fn c 10 (.ref 184) [.dct es] (.int (es.map (·.2)).sum) := by
  refine Fn.intro (f := R_count) ok_count rfl (by decide) fun X₀ own s₀ s L cells hc B => ?_
  refine st_assign B ev_int fun s1 B1 => ?_
  refine st_for (ds := es.map fun p => D.int p.2) (fun uu => own) (fun (x : List (Int × Int) × Int) => [("nc", .tr (.int x.2)), ("callers", .tr (.dct es))])
    (fun rest (x : List (Int × Int) × Int) => rest = x.1.map (fun p => D.int p.2) ∧ x.2 + (x.1.map (·.2)).sum = (es.map (·.2)).sum) (es, 0) (fun d => False)
    B1 (ei_vals (ev_loc B1 rfl)) ⟨rfl, by simp⟩ rfl ?_ ?_ ?_ ?_
  · exact (pk rfl (pk rfl pk0))
  · intro Q' d rest x X₁ hB s2 hQ hR zp B2 v tv
    obtain ⟨hx, hs⟩ := zp
    obtain ⟨l, k⟩ := x
    cases l with
    | nil => cases hx
    | cons p l =>
    injection hx with h1 h2
    subst h1
    refine use_name B2 tv fun s3 B3 => ?_
    refine st_aug B3 rfl (ev_loc B3 rfl) fun s4 B4 => st_nil (hQ (l, k + p.2) _ ⟨h2, ?_⟩ (B4.pick ?_))
    · simp only [List.map_cons, List.sum_cons] at hs ⊢; omega
    · refine al ?_ (al ?_ al0) <;> rfl
  · intro x s2 zp B2
    obtain ⟨hx, hs⟩ := zp
    obtain ⟨l, k⟩ := x
    cases l with
    | cons _ _ => cases hx
    | nil =>
      refine st_ret B2 ((ev_loc B2 rfl).less fun a h => .inl h) fun v s' h => ?_
      simp at hs
      rw [← hs]; exact h
  · intro d v s' hd
    exact hd.elim

noncomputable def putD (acc : List (Int × Int)) (p : Int × Int) : List (Int × Int) := setD acc p.1 p.2
noncomputable def addD (acc : List (Int × Int)) (p : Int × Int) : List (Int × Int) := match lookD acc p.1 with
  | some q => setD acc p.1 (q + p.2)
  | none => setD acc p.1 p.2
noncomputable def callersF (t s : List (Int × Int)) : List (Int × Int) := s.foldl addD (t.foldl putD [])
theorem setD_len (es : List (Int × Int)) (k v : Int) : (setD es k v).length ≤ es.length + 1 := by
  unfold setD
  split <;> simp
theorem addD_len (es : List (Int × Int)) (p : Int × Int) : (addD es p).length ≤ es.length + 1 := by
  unfold addD
  split <;> exact setD_len _ _ _
section
variable {c : Cx} {n : Nat} {env : Env} {X X₀ own Z : Addr → Prop} {hA : Heap} {os : OsState} {s s' s₀ : Shared} {σ : List (Str × LV)} {d : D} {ds : List D} {pos : Pos} {rest body : List Stmt} {Q : Flow → Shared → Prop}
theorem ev_isi {p : Pos} {e1 e2 : Expr} {i : Int} (O : c.Ok) (h1 : EvD c n X s (eval e1 env) (.int i)) (h2 : EvV c n s (eval e2 env) (.type "tuple")) (hns : autoParam (noStar [e1, e2] = true) tacR) (hk : autoParam (env.scope.kind = .function) tacR) (hxx : autoParam (env.kindOf "isinstance" = some .globalImplicit) tacR) (hgl : autoParam (env.globals = mainGlobals) tacR) (hbl : autoParam (env.builtins = builtinsNs) tacR) :
    EvD c n X s (eval (.Call (.Name "isinstance" p) [e1, e2] [] pos) env) (.bool false) := by
  refine ev_bcall (blt_name O (inF 5 rfl) boot_isinstance (by decide) hk hxx hgl hbl) (starEach_plain hns) EvEs.any (EvEs.evl (.cons h1 (.cons (d := .val (.type "tuple")) h2 .nil))) fun vs s1 k1 I1 zp => ?_
  obtain ⟨v, r, ev, ⟨t, hv⟩, v2, r2, er, hv2, er2⟩ := zp
  have er2 : r2 = [] := er2
  have hv2 : v2 = .type "tuple" := hv2
  subst er2 er ev hv hv2
  intro s2 k2 I2
  exact IsiPair.int_tuple ⟨.toks _ _, I2.toks _, rfl⟩
end
theorem callers_fn {c : Cx} (O : c.Ok) (t u : List (Int × Int)) (hs : t.length + u.length ≤ 1000) : Fn c 10 (.ref 177) [.dct t, .dct u] (.dct (callersF t u)) := by
  refine Fn.intro (f := R_callers) ok_callers rfl (by decide) fun X₀ own s₀ s L cells hc B => ?_
  refine st_dict B fun nd s1 nr nx B1 => ?_
  refine st_forT (ds := t.map prD) (fun uu => fun a => own a ∨ a = nd) (fun (x : List (Int × Int) × List (Int × Int)) => [("new_callers", .dc nd x.2), ("target", .tr (.dct t)), ("source", .tr (.dct u))])
    (fun rest (x : List (Int × Int) × List (Int × Int)) => rest = x.1.map prD ∧ x.1.foldl putD x.2 = t.foldl putD [] ∧ x.2.length + x.1.length ≤ t.length) (t, []) (fun d => False)
    B1 (ei_items (ev_loc B1 rfl)) ⟨rfl, rfl, by simp⟩ rfl ?_ ?_ ?_ ?_
  · exact (pk rfl (pk rfl (pk rfl pk0)))
  · intro Q' d rest x X₁ hB s2 hQ hR zp B2 v tv
    obtain ⟨hx, hf, hl⟩ := zp
    obtain ⟨l, acc⟩ := x
    cases l with
    | nil => cases hx
    | cons p l =>
    injection hx with h1 h2
    subst h1
    have hl : acc.length + (l.length + 1) ≤ t.length := hl
    refine use_tuple ["func", "caller"] B2 tv fun s3 B3 => ?_
    refine st_dset (k := p.1) (v := p.2) B3 rfl (ev_loc B3 rfl) (ev_loc B3 rfl) (by omega) rfl fun s4 B4 => st_nil (hQ (l, putD acc p) _ ⟨h2, hf, ?_⟩ (B4.pick ?_))
    · have := setD_len acc p.1 p.2
      show (putD acc p).length + l.length ≤ _
      unfold putD; omega
    · refine al ?_ (al ?_ (al ?_ al0)) <;> rfl
  · intro x s2 zp B2
    obtain ⟨hx, hf, hl⟩ := zp
    obtain ⟨l, acc⟩ := x
    cases l with
    | cons _ _ => cases hx
    | nil =>
    have hf : acc = t.foldl putD [] := hf
    have hl : acc.length ≤ t.length := hl
    refine st_forT (ds := u.map prD) (fun uu => fun a => own a ∨ a = nd) (fun (x : List (Int × Int) × List (Int × Int)) => [("new_callers", .dc nd x.2), ("source", .tr (.dct u))])
      (fun rest (x : List (Int × Int) × List (Int × Int)) => rest = x.1.map prD ∧ x.1.foldl addD x.2 = callersF t u ∧ x.2.length + x.1.length ≤ t.length + u.length) (u, acc) (fun d => False)
      B2 (ei_items (ev_loc B2 rfl)) ⟨rfl, by rw [hf]; rfl, by show acc.length + u.length ≤ _; omega⟩ rfl ?_ ?_ ?_ ?_
    · exact (pk rfl (pk rfl pk0))
    · intro Q' d rest x X₁ hB s2 hQ hR zp B2 v tv
      obtain ⟨hx, hf, hl⟩ := zp
      obtain ⟨l, acc⟩ := x
      cases l with
      | nil => cases hx
      | cons p l =>
      injection hx with h1 h2
      subst h1
      have hl : acc.length + (l.length + 1) ≤ t.length + u.length := hl
      have hal := addD_len acc p
      refine use_tuple ["func", "caller"] B2 tv fun s3 B3 => ?_
      have fin : ∀ s5, Bd c (R_callers.env L cells) X₁ (fun a => own a ∨ a = nd) (fun a => own a ∨ a = nd) hB s₀.os s5 [("new_callers", .dc nd (addD acc p)), ("source", .tr (.dct u))] → Q' .next s5 := fun s5 B5 =>
        hQ (l, addD acc p) s5 ⟨h2, hf, by show (addD acc p).length + l.length ≤ _; omega⟩ B5
      refine st_if (b := (lookD acc p.1).isSome) B3.inv (ev_din B3 rfl (ev_loc B3 rfl)) (fun hb s4 E4 I4 => ?_) (fun hb s4 E4 I4 => ?_)
      · have B4 := B3.ext E4 I4
        obtain ⟨q, hq⟩ := Option.isSome_iff_exists.mp hb
        refine st_if (b := false) B4.inv (ev_true (ev_isi O (ev_loc B4 rfl) (blt_name O (inF 6 rfl) boot_tuple))) (fun h => nomatch h) fun uu s5 E5 I5 => ?_
        refine st_daug (k := p.1) (q := p.2) (B4.ext E5 I5) rfl (ev_loc (B4.ext E5 I5) rfl) hq (ev_loc (B4.ext E5 I5) rfl) (by omega) rfl fun s6 B6 => st_nil (st_nil (st_nil (fin s6 (B6.pick ?_))))
        refine al ?_ (al ?_ al0)
        · have : addD acc p = setD acc p.1 (q + p.2) := by unfold addD; rw [hq]
          rw [this]; rfl
        · rfl
      · have B4 := B3.ext E4 I4
        have hn : lookD acc p.1 = none := by
          cases h : lookD acc p.1 with
          | none => rfl
          | some q => rw [h] at hb; cases hb
        refine st_dset (k := p.1) (v := p.2) B4 rfl (ev_loc B4 rfl) (ev_loc B4 rfl) (by omega) rfl fun s6 B6 => st_nil (st_nil (fin s6 (B6.pick ?_)))
        refine al ?_ (al ?_ al0)
        · have : addD acc p = setD acc p.1 p.2 := by unfold addD; rw [hn]
          rw [this]; rfl
        · rfl
    · intro x s2 zp B2
      obtain ⟨hx, hf, hl⟩ := zp
      obtain ⟨l, acc⟩ := x
      cases l with
      | cons _ _ => cases hx
      | nil =>
        have hf : acc = callersF t u := hf
        exact st_ret B2 (ev_freezeD B2 rfl) fun v s' h => by rw [← hf]; exact h
    · intro d v s' hd
      exact hd.elim
  · intro d v s' hd
    exact hd.elim
noncomputable abbrev Book := Int × Int × Int × Int × List (Int × Int)
noncomputable def bookD (b : Book) : D := .tup [.int b.1, .int b.2.1, .int b.2.2.1, .int b.2.2.2.1, .dct b.2.2.2.2]
noncomputable def statsF (t s : Book) : Book := (s.1 + t.1, s.2.1 + t.2.1, s.2.2.1 + t.2.2.1, s.2.2.2.1 + t.2.2.2.1, callersF t.2.2.2.2 s.2.2.2.2)
theorem stats_fn {c : Cx} (O : c.Ok) (t u : Book) (hs : t.2.2.2.2.length + u.2.2.2.2.length ≤ 1000) : Fn c 8 (.ref 170) [bookD t, bookD u] (bookD (statsF t u)) := by
  refine Fn.intro (f := R_stats) ok_stats rfl (by decide) fun X₀ own s₀ s L cells hc B => ?_
  refine st_unpack ["cc", "nc", "tt", "ct", "callers"] B (ev_loc B rfl) fun s1 B1 => ?_
  refine st_unpack ["t_cc", "t_nc", "t_tt", "t_ct", "t_callers"] B1 (ev_loc B1 rfl) fun s2 B2 => ?_
  refine st_ret B2 (EvD.less (X := fun a => X₀ a ∨ own a) (ev_tup B2.ex (.cons (ev_bin B2.ex (ev_loc B2 rfl) (ev_loc B2 rfl) bin_add) (.cons (ev_bin B2.ex (ev_loc B2 rfl) (ev_loc B2 rfl) bin_add) (.cons (ev_bin B2.ex (ev_loc B2 rfl) (ev_loc B2 rfl) bin_add) (.cons (ev_bin B2.ex (ev_loc B2 rfl) (ev_loc B2 rfl) bin_add)
    (.cons (ev_callN (f := R_callers) (ds := [.dct t.2.2.2.2, .dct u.2.2.2.2]) B2.ex (ev_fn O B2.inv (inF 2 rfl) rfl) (inF 11 rfl) (Fn.weak (callers_fn O _ _ hs) (by decide)) (.cons (ev_loc B2 rfl) (.cons (ev_loc B2 rfl) .nil))) .nil)))))) fun a h => .inl h) fun v s' h => h
end Mine
end
section
open PySem PySem.W PySem.Calls PyProof.Rows
set_option linter.unusedVariables false
set_option maxRecDepth 100000
namespace Mine
set_option genSizeOf false
set_option genInjectivity false
set_option tactic.hygienic false
theorem TrL.append {h : Heap} {X : Addr → Prop} : ∀ {ds es : List D} {vs ws : List Value}, TrL h X ds vs → TrL h X es ws → TrL h X (ds ++ es) (vs ++ ws)
  | [], es, vs, ws, e, t => by rw [show vs = [] from e]; exact t
  | u1 :: u2, es, u3, ws, zp, t => by obtain ⟨v, r, e, x, ts⟩ := zp; exact ⟨v, r ++ ws, by rw [e]; rfl, x, TrL.append ts t⟩
section
variable {c : Cx} {n : Nat} {env : Env} {X X₀ own Z : Addr → Prop} {hA : Heap} {os : OsState} {s s' s₀ : Shared} {σ : List (Str × LV)} {d : D} {ds es : List D} {pos : Pos} {rest body : List Stmt} {Q : Flow → Shared → Prop}
theorem evn_ladd {l r : Expr} (hX : ∀ a, X a → (s.heap.get? a).isSome = true) (h1 : EvD c n X s (eval l env) (.lst ds)) (h2 : EvD c n X s (eval r env) (.lst es)) (hsz : ds.length + es.length ≤ 100000) : EvN c n X s (eval (.BinOp l .Add r pos) env) (ds ++ es) := fun s' k I => by
  refine wpAny_BinOp (wz (h1 s' k I) (fun v1 s1 k1 I1 t1 => wz (h2 s1 (k.trans k1) I1) (fun v2 s2 k2 I2 t2 => ?_)))
  have t1 := t1.ext k2
  obtain ⟨a, us, rfl, na, ⟨q1, ha⟩, tl1⟩ := t1
  obtain ⟨b, ws, rfl, nb, ⟨q2, hb⟩, tl2⟩ := t2
  have z1 : us.size = ds.length := by rw [← tl1.length, Array.length_toList]
  have z2 : ws.size = es.length := by rw [← tl2.length, Array.length_toList]
  refine concat_meets ⟨_, ha, rfl⟩ ⟨_, hb, rfl⟩ noFill_list_add seq_list_add PySem.F.slot_list_add PySem.F.entry_list_add (PySem.F.args_list_add_2 _ _) (list_addW a b us ws q1 q2 _ _ _ _ (by show _ ≤ 2 ^ 24; omega)) ⟨ha, hb, ?_⟩
  have Ea := ext_push s2 { cls := .type "list", data := .seq (us ++ ws) }
  have q := push_tr (o := { cls := .type "list", data := .seq (us ++ ws) }) (TrL.append tl1 tl2)
  refine ⟨(k1.trans k2).trans Ea, I2.keep Ea.keep I2.bare, s2.heap.objs.size, us ++ ws, rfl, ext_none ((k.trans k1).trans k2) (size_none _), I2.size, ⟨0, Heap.get?_push_size _ rfl⟩, ?_⟩
  rw [Array.toList_append]
  exact q
end
end Mine
end
section
open PySem PySem.W PySem.Calls PyProof.Rows
set_option linter.unusedVariables false
set_option maxRecDepth 100000
namespace Mine
set_option genSizeOf false
set_option genInjectivity false
set_option tactic.hygienic false
noncomputable def sortI (ns : List Int) : List Int := ns.mergeSort (fun a b => decide (a ≤ b))
theorem sortI_unique {ns ns' : List Int} (h1 : ns'.Perm ns) (h2 : ns'.Pairwise (· ≤ ·)) : ns' = sortI ns := by
  have h3 : (sortI ns).Pairwise (fun a b : Int => a ≤ b) := by
    have := List.pairwise_mergeSort (le := fun a b : Int => decide (a ≤ b)) (by intro a b c; simp; omega) (by intro a b; simp; omega) ns
    exact this.imp fun h => by simpa using h
  have hp : ns'.Perm (sortI ns) := h1.trans (List.mergeSort_perm ns _).symm
  exact hp.eq_of_pairwise (fun a b uu uu x y => Int.le_antisymm x y) h2 h3
theorem boot_sorted' : bootBuiltins "sorted" = some (.builtin "sorted") := by kernel_rfl
section
variable {c : Cx} {n : Nat} {env : Env} {X X₀ own Z : Addr → Prop} {hA : Heap} {os : OsState} {s s' s₀ : Shared} {σ : List (Str × LV)} {d : D} {ds es : List D} {pos : Pos} {rest body : List Stmt} {Q : Flow → Shared → Prop}
theorem ints_are {h : Heap} : ∀ {ns : List Int} {us : List Value}, TrL h X (ns.map D.int) us → IntsAre us ns
  | [], us, e => by rw [show us = [] from e]; exact .nil
  | i :: ns, us, zp => by obtain ⟨v, r, e, ⟨t, ev⟩, tl⟩ := zp; subst e ev; exact .cons _ _ (ints_are tl)
theorem ints_tr {h : Heap} : ∀ {ns : List Int} {us : List Value}, IntsAre us ns → TrL h X (ns.map D.int) us
  | _, _, .nil => rfl
  | _, _, .cons _ _ r => ⟨_, _, rfl, ⟨_, rfl⟩, ints_tr r⟩
theorem evn_sorted {p : Pos} {e : Expr} {ns : List Int} (O : c.Ok) (h : EvD c n X s (eval e env) (.lst (ns.map D.int))) (hsz : ns.length < 64) (hns : autoParam (noStar [e] = true) tacR) (hk : autoParam (env.scope.kind = .function) tacR) (hxx : autoParam (env.kindOf "sorted" = some .globalImplicit) tacR) (hgl : autoParam (env.globals = mainGlobals) tacR) (hbl : autoParam (env.builtins = builtinsNs) tacR) :
    EvN c n X s (eval (.Call (.Name "sorted" p) [e] [] pos) env) ((sortI ns).map D.int) := by
  refine ev_bcall (blt_name O (inF 3 rfl) boot_sorted' (by decide) hk hxx hgl hbl) (starEach_plain hns) EvEs.any (EvEs.evl (.cons h .nil)) fun vs s1 e1 I1 zp => ?_
  obtain ⟨v, r, ev, t, er⟩ := zp
  have er : r = [] := er
  subst er ev
  obtain ⟨a, us, rfl, na, hl, tl⟩ := t
  intro s2 e2 I2
  have hl2 := list_obj hl fun o q1 q2 => e2.keep.get q1 q2
  have hI := ints_are tl
  refine sorted_ints (vs := us.toList) (ns := ns) (by simpa using hl2.is) hI (by rw [hI.length]; exact hsz) fun out ns' a1 a2 a3 => ?_
  obtain ⟨k, hk2⟩ := sortedAll_at s2.heap us.toList out
  have E : Ext s2 { s2 with heap := sortedAll s2.heap us.toList out } := ⟨Keep.full fun b o e => sortedAll_old e, rfl⟩
  refine ⟨E, I2.keep E.keep I2.bare, s2.heap.objs.size + 1, out, rfl, ?_, Nat.lt_succ_of_lt I2.size, ⟨k, hk2⟩, ?_⟩
  · refine ext_none (e1.trans e2) ?_
    cases q : s2.heap.get? (s2.heap.objs.size + 1) with
    | none => rfl
    | some o => exact absurd (Heap.lt_size q) (Nat.not_lt.mpr (Nat.le_succ _))
  · rw [← sortI_unique a2 a3]
    exact ints_tr a1
end
end Mine
end
section
open PySem PySem.W PySem.Calls PyProof.Rows
set_option linter.unusedVariables false
set_option maxRecDepth 100000
namespace Mine
set_option genSizeOf false
set_option genInjectivity false
set_option tactic.hygienic false
section
variable {c : Cx} {n : Nat} {env : Env} {X X₀ own Z : Addr → Prop} {hA : Heap} {os : OsState} {s s' s₀ : Shared} {σ : List (Str × LV)} {d : D} {ds es : List D} {pos : Pos} {rest body : List Stmt} {Q : Flow → Shared → Prop}
theorem strs_items {h : Heap} : ∀ {ss : List Str} {us : List Value}, TrL h X (ss.map D.str) us → ∃ l : List (Str × Tok), us = strValues l ∧ l.map (·.1) = ss
  | [], us, e => ⟨[], by rw [show us = [] from e]; rfl, rfl⟩
  | i :: ns, us, zp => by
    obtain ⟨v, r, e, ⟨t, ev⟩, tl⟩ := zp
    obtain ⟨l, h1, h2⟩ := strs_items tl
    exact ⟨(i, t) :: l, by rw [e, ev, h1]; rfl, by rw [← h2]; rfl⟩
theorem ev_join {o : Expr} {apos : Pos} {a : Expr} {x : Str} {ss : List Str} (ho : EvD c n X s (eval o env) (.str x)) (h1 : EvD c n X s (eval a env) (.lst (ss.map D.str))) (hl : Builtin.Str.tooLong (ss.toArray.foldl (· + ·.length + x.length) 0) = false) (hg : (Builtin.Str.glued x ss).length ≤ 2 ^ 24) (hargs : autoParam (backTo pos (starEach [a] env) = [(false, eval a env)]) tacR)
    (hbase : autoParam (attributeBase o "join" env (eval o env) = eval o env) tacR) (hline : autoParam ((apos.endLine == pos.line) = true) tacR) : EvD c n X s (eval (.Call (.Attribute o "join" apos) [a] [] pos) env) (.str (Builtin.Str.glued x ss)) := by
  refine ev_bmeth (T := "str") (id := "str.join") (RO := fun uu v => ∃ t, v = .str x t) ho (fun uu uu uu uu h => h) (fun s1 v zp => by obtain ⟨t, e⟩ := zp; subst e; exact ⟨typeIs_str _ _ _, fun a e => nomatch e⟩) F.plainAttrs_str F.slot_str_join F.type_str_join hargs rfl (by simp) (evl_cons h1 evl_nil) ?_ hbase hline
  rintro v vs s1 e I1 ⟨t, rfl⟩ ⟨u, r, rfl, ⟨b, us, rfl, nb, hb, tl⟩, er⟩ s2 e2 I2
  have er : r = [] := er
  subst er
  have hb2 := list_obj hb fun o q1 q2 => e2.keep.get q1 q2
  obtain ⟨l, q1, q2⟩ := strs_items tl
  have hus : us = (strValues l).toArray := Array.toList_inj.mp q1
  subst hus q2
  refine call_meets F.slot_str_join (typeIs_str _ _ _) F.entry_str_join (F.args_str_join_2 _ _) (meets_str_join_list x t b l hl) ⟨hb2.is, ?_⟩
  cases l with
  | nil => exact ⟨hg, .toks _ _, I2.toks _, _, rfl⟩
  | cons p r =>
    cases r with
    | nil => exact ⟨.refl _, I2, p.2, rfl⟩
    | cons q r => exact ⟨hg, .toks _ _, I2.toks _, _, rfl⟩
end
end Mine
end
section
open PySem PySem.W PySem.Calls PyProof.Rows
set_option linter.unusedVariables false
set_option maxRecDepth 100000
namespace Mine
set_option genSizeOf false
set_option genInjectivity false
set_option tactic.hygienic false
section
variable {c : Cx} {n : Nat} {env : Env} {X X₀ own Z : Addr → Prop} {hA : Heap} {os : OsState} {s s' s₀ : Shared} {σ : List (Str × LV)} {d : D} {ds es : List D} {pos : Pos} {rest body : List Stmt} {Q : Flow → Shared → Prop}
theorem ev_index {x : Str} {xp apos : Pos} {a : Addr} {e : Expr} {j : Nat} (B : Bd c env X₀ own Z hA os s σ) (hl : σ.lookup x = some (.ls a ds)) (he : EvD c n (fun b => X₀ b ∨ own b) s (eval e env) d) (hp : (D.lst ds).Ok) (hd : d.Ok) (hn : n ≤ 40) (hj : j < ds.length) (hsz : ds.length ≤ 1000)
    (hit : PyData.eqv (ds[j]'hj).py d.py = true) (hno : ∀ m (hm : m < ds.length), m < j → PyData.eqv (ds[m]'hm).py d.py = false)
    (hk : autoParam (env.scope.kind = .function) tacR) (hx' : autoParam (isLC (env.kindOf x) = true) tacR) (hdb : autoParam ((x == ("__debug__" : Str)) = false) tacD) (hns : autoParam (noStar [e] = true) tacR) (hline : autoParam ((apos.endLine == pos.line) = true) tacR) :
    EvD c n (fun b => X₀ b ∨ own b) s (eval (.Call (.Attribute (.Name x xp) "index" apos) [e] [] pos) env) (.int j) := by
  refine ev_bmeth (T := "list") (id := "list.index") (RO := fun s1 v => v = .ref a ∧ ∃ us, IsL s1.heap a us ∧ TrL s1.heap (fun b => X₀ b ∨ own b) ds us.toList) (fun s1 k I => wz (ev_live (n := n) B hl hk hx' hdb s1 k I) (fun v s2 k2 I2 ev => ?_)) (fun s1 s2 v k zp => by obtain ⟨ev, us, h1, h2⟩ := zp; exact ⟨ev, us, list_obj h1 fun o q1 q2 => k.keep.get q1 q2, h2.ext k⟩) (fun s1 v zp => by obtain ⟨ev, us, ⟨k, h1⟩, h2⟩ := zp; subst ev; exact ⟨⟨_, h1, rfl⟩, fun b q => by cases q; exact ⟨_, h1, rfl⟩⟩) F.plainAttrs_list F.slot_list_index F.type_list_index (starEach_plain hns) EvEs.any (by simp) (EvEs.evl (.cons he .nil)) ?_ (by rfl) hline
  · obtain ⟨_, us, h1, h2⟩ := (B.ext (k.trans k2) I2).live hl
    exact ⟨k2, I2, ev, us, h1, h2⟩
  · rintro v vs s1 k1 I1 ⟨rfl, us, h1, h2⟩ ⟨u, r, rfl, t, er⟩ s2 k2 I2
    have er : r = [] := er
    subst er
    have h1 := list_obj h1 fun o q1 q2 => k2.keep.get q1 q2
    have h2 := h2.ext k2
    have t := t.ext k2
    have pl : D.plains ds = true := hp.plain
    obtain ⟨as, rs⟩ := TrL.reads ds us.toList pl h2
    obtain ⟨bs, rx⟩ := Tr.reads d u hd.plain t
    obtain ⟨k, h1⟩ := h1
    have sz : us.size = ds.length := by rw [← h2.length, Array.length_toList]
    have rm := SeqAt.readsAll_map _ _ _ (D.lays ds pl) rs
    have pm : ∀ l : List D, D.pys l = l.map D.py := fun l => by
      induction l with
      | nil => rfl
      | cons d r ih => show d.py :: D.pys r = _; rw [ih]; rfl
    rw [pm] at rm
    have at_ : ∀ m (h1 : m < us.size) (h2 : m < ds.length), SeqAt.readOf s2.heap us[m] = (ds[m]'h2).py := fun m h1 h2 => by
      have q : (us.toList.map (SeqAt.readOf s2.heap))[m]? = (ds.map D.py)[m]? := by rw [rm]
      simpa [h1, h2] using q
    refine call_meets F.slot_list_index ⟨_, h1, rfl⟩ F.entry_list_index (F.args_list_index_2 _ _) (SeqAt.list_indexAt a us k none #[] u (fun y => PyData.eqv (SeqAt.readOf s2.heap y) d.py) j (by omega) (by omega) (by show PyData.eqv (SeqAt.readOf s2.heap us[j]) d.py = true; rw [at_ j (by omega) hj]; exact hit) (fun m hm hlt => by show PyData.eqv (SeqAt.readOf s2.heap us[m]) d.py = false; rw [at_ m hm (by omega)]; exact hno m (by omega) hlt)) ⟨h1, SeqAt.items_eqAt rs rx (D.lays ds pl) (D.lay d hd.plain) ?_, ?_⟩
    · have := room n hn
      have h3 : min (PyData.depthAll (D.pys ds)) d.py.depth ≤ 60 := Nat.le_trans (Nat.min_le_right _ _) (by rw [D.depth]; exact hd.dep)
      omega
    · exact ⟨.toks _ _, I2.toks _, _, rfl⟩
end
end Mine
end
section
open PySem PySem.W PySem.Calls PyProof.Rows
set_option linter.unusedVariables false
set_option maxRecDepth 100000
namespace Mine
set_option genSizeOf false
set_option genInjectivity false
set_option tactic.hygienic false
section
variable {c : Cx} {n : Nat} {env : Env} {X X₀ own Z : Addr → Prop} {hA : Heap} {os : OsState} {s s' s₀ : Shared} {σ : List (Str × LV)} {d : D} {ds : List D} {i0 : Int} {pos : Pos} {rest body : List Stmt} {Q : Flow → Shared → Prop}
theorem ev_dict1 {e1 e2 : Expr} {k v : Int} (hX : ∀ a, X a → (s.heap.get? a).isSome = true) (h1 : EvD c n X s (eval e1 env) (.int k)) (h2 : EvD c n X s (eval e2 env) (.int v)) : EvD c n X s (eval (.Dict [some e1] [e2] pos) env) (.dct [(k, v)]) := fun s1 k1 I1 => by
  have Ea := ext_push s1 { cls := .type "dict", data := .dict #[] }
  have Ia := I1.keep Ea.keep I1.bare
  have fr : s1.heap.get? s1.heap.objs.size = none := size_none _
  refine wpAny_Dict_pairs (knd := intKind PR c.w) (pairs := [(eval e1 env, do let x ← eval e2 env; standAt pos; pure x)]) rfl (by simp) (by simp) (evalPairs_cons ?_)
  refine wz (h1 _ (k1.trans Ea) Ia) (fun kv s2 k2 I2 zr => ?_)
  obtain ⟨t, ek⟩ := zr
  refine wpAny_bind (wz (h2 s2 ((k1.trans Ea).trans k2) I2) (fun vv s3 k3 I3 zq => wpAny_bind (wpAny_standAt (wpAny_pure (evalPairs_nil ?_)))))
  obtain ⟨u, ev⟩ := zq
  subst ek ev
  have ho : s3.heap.get? s1.heap.objs.size = some { cls := .type "dict", data := .dict #[] } := (k2.trans k3).keep.get (Heap.get?_push_size _ rfl) (by intro e; cases e)
  refine ⟨[(k, .int v u)], ⟨keyI k t c.w, rfl, trivial⟩, ⟨_, #[], 0, ho, ⟨rfl, rfl, rfl⟩, rfl, fun e he => absurd he (by simp), .nil, List.nodup_nil⟩, fun h' hd hs => ?_⟩
  have E3 : Ext s1 { s3 with heap := h', toks := s3.toks + 1 } := by
    refine ext_kp (Z := fun b => b = s1.heap.objs.size) (s := s3) (s' := { s3 with heap := h', toks := s3.toks + 1 }) (Ea.trans (k2.trans k3)) (.same hs rfl) rfl fun a h => h ▸ fr
  have hd2 : Dct h' s1.heap.objs.size [(k, v)] := Dct.to hd ⟨u, [], rfl, rfl⟩ I1.size
  refine ⟨E3, I1.keep E3.keep I3.bare, _, rfl, fun q => ?_, hd2⟩
  have := hX _ q
  rw [ext_none k1 fr] at this; cases this
end
end Mine
end
section
open PySem PySem.W PySem.Calls PyProof.Rows
set_option linter.unusedVariables false
set_option maxRecDepth 100000
namespace Mine
set_option genSizeOf false
set_option genInjectivity false
set_option tactic.hygienic false
theorem DctL.pairsG {prog : Program} {w : World} : ∀ {es : List (Int × Int)} {l : List DictEntry}, DctL es l → ∃ kvs, Pairs (intKind prog w) l kvs ∧ VL es kvs ∧ ∀ e ∈ l, ∃ k, (intKind prog w).is k e.key = true ∧ e.hash = (intKind prog w).hash k
  | [], l, e => by rw [show l = [] from e]; exact ⟨[], .nil, rfl, fun uu h => nomatch h⟩
  | p :: es, u1, zp => by
    obtain ⟨e, r, t, t', el, h1, h2, h3, h4⟩ := zp
    subst el
    obtain ⟨kvs, g1, g2, g3⟩ := h4.pairsG (prog := prog) (w := w)
    have hk : (intKind prog w).is p.1 e.key = true := by show Value.isInt p.1 e.key = true; rw [h1, isInt_eq]; simp
    refine ⟨(p.1, .int p.2 t') :: kvs, .cons hk h3 g1, ⟨t', kvs, rfl, g2⟩, fun x hx => ?_⟩
    rcases List.mem_cons.mp hx with rfl | hx
    · exact ⟨p.1, hk, h2⟩
    · exact g3 x hx
theorem Dct.ofG {h : Heap} {a : Addr} {es : List (Int × Int)} (x : Dct h a es) (prog : Program) (w : World) : ∃ kvs, h.DictOf (intKind prog w) a kvs ∧ VL es kvs := by
  obtain ⟨_, l, o, n, h1, h2, h3, h4, h5⟩ := x
  obtain ⟨kvs, g1, g2, g3⟩ := h4.pairsG (prog := prog) (w := w)
  exact ⟨kvs, ⟨o, l, n, h1, h2, h3, fun e he => g3 e (Array.mem_toList_iff.mpr he), g1, by rw [g2.keys]; exact h5⟩, g2⟩
theorem lookD_mem : ∀ {es : List (Int × Int)} {p : Int × Int}, (es.map (·.1)).Nodup → p ∈ es → lookD es p.1 = some p.2
  | q :: es, p, hn, hp => by
    rw [List.map_cons, List.nodup_cons] at hn
    unfold lookD
    by_cases e : q.1 = p.1
    · rcases List.mem_cons.mp hp with rfl | hp
      · simp
      · exact absurd (List.mem_map.mpr ⟨p, hp, e.symm⟩) hn.1
    · rcases List.mem_cons.mp hp with rfl | hp
      · exact absurd rfl e
      · have := lookD_mem hn.2 hp
        rw [List.find?_cons]
        simp only [e, decide_false]
        exact this
theorem hits_all {A : Around} {s : Shared} {es : List (Int × Int)} {kb : List (Int × Value)} (hb : VL es kb) (hn : (es.map (·.1)).Nodup) : ∀ {es' : List (Int × Int)} {ka : List (Int × Value)}, VL es' ka → (∀ p ∈ es', p ∈ es) → KeqHits A s kb ka true
  | [], ka, e, u1 => by rw [show ka = [] from e]; exact .nil
  | p :: es', u1, zp, hm => by
    obtain ⟨t, r, e, v⟩ := zp
    subst e
    have hl := lookD_mem hn (hm p (by simp))
    rcases hb.valueAt p.1 with ⟨v', t', h1, h2⟩ | ⟨h1, _⟩
    · rw [hl] at h1; cases h1
      have q := SeqAt.EqAt.int_int (A := A) (s := s) p.2 t p.2 t'
      rw [beq_self_eq_true] at q
      exact .hit h2 q (hits_all hb hn v fun x hx => hm x (List.mem_cons_of_mem _ hx))
    · rw [hl] at h1; cases h1
section
variable {c : Cx} {n : Nat} {env : Env} {X X₀ own Z : Addr → Prop} {hA : Heap} {os : OsState} {s s' s₀ : Shared}
theorem dct_eqAt {A : Around} {h : Heap} {a b : Addr} {es : List (Int × Int)} (hh : s.heap = h) (da : Dct h a es) (db : Dct h b es) (hu : A.units < cLine) : SeqAt.EqAt A s (.ref a) (.ref b) true := by
  subst hh
  by_cases e : a = b
  · subst e; exact .same _
  · refine .of_refs e fun prog w E Q hq => ?_
    obtain ⟨ka, a1, a2⟩ := da.ofG prog w
    obtain ⟨kb, b1, b2⟩ := db.ofG prog w
    have hn : (es.map (·.1)).Nodup := by obtain ⟨_, l, o, n, _, _, _, _, h5⟩ := da; exact h5
    refine keq_eq (knd := intKind prog w) (far_mod da.1) (far_mod db.1) a1 b1 hu (fun uu => hits_all b2 hn a2 fun p hp => hp) ?_
    have hl : ka.length = kb.length := by rw [a2.length, b2.length]
    rw [hl, beq_self_eq_true]
    exact hq
theorem cmp_book {b : Book} (hn : n ≤ 40) : CmpD c n .NotEq (bookD b) (bookD b) false := fun X s v1 v2 I t1 t2 => by
  obtain ⟨a1, us, rfl, _, h1, x1, r1, e1, ⟨k1, q1⟩, x2, r2, e2, ⟨k2, q2⟩, x3, r3, e3, ⟨k3, q3⟩, x4, r4, e4, ⟨k4, q4⟩, x5, r5, e5, ⟨d1, q5, _, hd1⟩, e6⟩ := t1
  obtain ⟨a2, ws, rfl, _, h2, y1, s1, f1, ⟨l1, p1⟩, y2, s2, f2, ⟨l2, p2⟩, y3, s3, f3, ⟨l3, p3⟩, y4, s4, f4, ⟨l4, p4⟩, y5, s5, f5, ⟨d2, p5, _, hd2⟩, f6⟩ := t2
  have e6 : r5 = [] := e6
  have f6 : s5 = [] := f6
  subst e6 e5 e4 e3 e2 f6 f5 f4 f3 f2 q1 q2 q3 q4 q5 p1 p2 p3 p4 p5
  have hu : us = #[.int b.1 k1, .int b.2.1 k2, .int b.2.2.1 k3, .int b.2.2.2.1 k4, .ref d1] := Array.toList_inj.mp e1
  have hw : ws = #[.int b.1 l1, .int b.2.1 l2, .int b.2.2.1 l3, .int b.2.2.2.1 l4, .ref d2] := Array.toList_inj.mp f1
  subst hu hw
  have room1 : (AL n).units + 64 < cLine := room n hn
  have cl : cLine = 9900 := rfl
  refine SeqAt.RcNeAt.tuples (A := AL n) (e := fun uu => true) h1.is h2.is (by omega) (fun j g1 g2 => ?_) PR c.w _ _ ?_
  · have ii : ∀ (i : Int) (t u : Tok), SeqAt.EqAt (AL n).in1 s (.int i t) (.int i u) true := fun i t u => by
      have q := SeqAt.EqAt.int_int (A := (AL n).in1) (s := s) i t i u
      rwa [beq_self_eq_true] at q
    exact lt5 (P := fun j => ∀ q : j < 5, SeqAt.EqAt (AL n).in1 s ((#[.int b.1 k1, .int b.2.1 k2, .int b.2.2.1 k3, .int b.2.2.2.1 k4, .ref d1] : Array Value)[j]'q) ((#[.int b.1 l1, .int b.2.1 l2, .int b.2.2.1 l3, .int b.2.2.2.1 l4, .ref d2] : Array Value)[j]'q) true)
      (fun uu => ii _ _ _) (fun uu => ii _ _ _) (fun uu => ii _ _ _) (fun uu => ii _ _ _) (fun uu => dct_eqAt rfl hd1 hd2 (by show (AL n).units + 1 < cLine; omega)) j g1 g1
  · exact ⟨.refl _, I, rfl⟩
end
end Mine
end
section
open PySem PySem.W PySem.Calls PyProof.Rows
set_option linter.unusedVariables false
set_option maxRecDepth 100000
namespace Mine
set_option genSizeOf false
set_option genInjectivity false
set_option tactic.hygienic false
noncomputable def drawStep (script : List Int) (dr : List Int) (k : Nat) : List Int := dr.set (k % 5) (dr.getD (k % 5) 0 + script.getD k 0 % 1000003)
noncomputable def drawn0 : List Int := [83, 1613, 2608, 738, 1803]
noncomputable def drawnF (script : List Int) : List Int := (List.range (min 25 script.length)).foldl (drawStep script) drawn0
theorem drawStep_len (script dr : List Int) (k : Nat) : (drawStep script dr k).length = dr.length := by simp [drawStep]
theorem ok_drawn : R_drawn.Ok ["script"] where
  mem := inF 14 rfl
  cl := rfl
  bind := fun kV doc pm an ct vs h => by
    obtain ⟨a, rfl⟩ := len1 h
    rfl
  kinds := by rfl
  nodup := by decide
  cnodup := by decide
  celled := by rfl
  co := rfl
  gen := rfl
  fun_ := rfl
theorem drawn_fn {c : Cx} (O : c.Ok) (script : List Int) (hs : script.length ≤ 1000) : Fn c 10 (.ref 208) [.lst (script.map D.int)] (.lst ((drawnF script).map D.int)) := by
  refine Fn.intro (f := R_drawn) ok_drawn rfl (by decide) fun X₀ own s₀ s L cells hc B => ?_
  refine st_live B (evn_lst (.cons ev_int (.cons ev_int (.cons ev_int (.cons ev_int (.cons ev_int .nil)))))) fun dr s1 nr nx B1 => ?_
  have hr : rangeL 0 ((cutD (script.map D.int) none (some 25)).length : Int) = (List.range (min 25 script.length)).map fun i : Nat => D.int i := by
    unfold rangeL
    have : ((((cutD (script.map D.int) none (some 25)).length : Nat) : Int) - 0).toNat = min 25 script.length := by
      show ((((List.take 25 (script.map D.int)).length : Nat) : Int) - 0).toNat = _
      rw [List.length_take, List.length_map]; omega
    rw [this]
    apply List.map_congr_left
    intro i _; rw [Int.zero_add]
  refine st_for (ds := (List.range (min 25 script.length)).map fun i : Nat => D.int i) (fun uu => fun a => own a ∨ a = dr) (fun (x : List Int) => [("drawn", .ls dr (x.map D.int)), ("script", .tr (.lst (script.map D.int)))])
    (fun rest (x : List Int) => ∃ k, k ≤ min 25 script.length ∧ rest = ((List.range (min 25 script.length)).drop k).map (fun i : Nat => D.int i) ∧ x = ((List.range (min 25 script.length)).take k).foldl (drawStep script) drawn0) drawn0 (fun d => False)
    B1 ?_ ⟨0, by omega, rfl, rfl⟩ rfl ?_ ?_ ?_ ?_
  · rw [← hr]
    refine (ec_range_of (ev_range1 O (ev_len O ((evn_slice_tr (ev_loc B1 rfl) evpt_none (evpt_some (X := fun uu => False) ev_int) (fun a h => nomatch h) (fun a b h => nomatch h) (by simp; omega)).tr B1.ex) ?_)) (by decide) (by decide) ?_ ?_).toI
    · show (List.take 25 (script.map D.int)).length ≤ 1000
      simp; omega
    · have : (0 : Int) ≤ ((cutD (script.map D.int) none (some 25)).length : Int) := Int.natCast_nonneg _
      omega
    · show (((List.take 25 (script.map D.int)).length : Nat) : Int) < 2 ^ 40
      rw [List.length_take, List.length_map]; omega
  · exact (pk rfl (pk rfl pk0))
  · intro Q' d rest x X₁ hB s2 hQ hR zp B2 v tv
    obtain ⟨k, hk, hr, hx⟩ := zp
    have hkl : k < min 25 script.length := by
      apply Nat.lt_of_not_le
      intro q
      rw [List.drop_of_length_le (by simpa using q)] at hr
      cases hr
    rw [List.drop_eq_getElem_cons (by simpa using hkl), List.map_cons, List.getElem_range] at hr
    injection hr with h1 h2
    subst h1
    have xl : x.length = 5 := by
      rw [hx]
      generalize (List.range (min 25 script.length)).take k = l
      have : ∀ (l : List Nat) (a : List Int), (l.foldl (drawStep script) a).length = a.length := by
        intro l
        induction l with
        | nil => intro a; rfl
        | cons y l ih => intro a; rw [List.foldl_cons, ih, drawStep_len]
      rw [this]; rfl
    have hk5 : k % 5 < x.length := by omega
    have e5 : ((k : Int) % 5) = ((k % 5 : Nat) : Int) := by omega
    refine use_name B2 tv fun s3 B3 => ?_
    refine st_augitem (k := ((k % 5 : Nat) : Int)) (p := x.getD (k % 5) 0) (q := script.getD k 0 % 1000003) B3 rfl (ev_as (ev_bin B3.ex (ev_loc B3 rfl) ev_int (bin_mod (by decide))) (congrArg D.int e5)) (by omega) (by simp; omega) (by simp; omega) ?_
      (ev_bin B3.ex (ev_item_lst (i := (k : Int)) (d := .int (script.getD k 0)) (ev_loc B3 rfl) (ev_loc B3 rfl) (by omega) (by omega) ?_) ev_int (bin_mod (by decide))) (hap_of rfl) fun s4 B4 => st_nil ?_
    · rw [Int.toNat_natCast, List.getElem?_map, List.getElem?_eq_getElem hk5, List.getD_eq_getElem?_getD, List.getElem?_eq_getElem hk5]; rfl
    · rw [Int.toNat_natCast, List.getElem?_map, List.getElem?_eq_getElem (by omega), List.getD_eq_getElem?_getD, List.getElem?_eq_getElem (by omega)]; rfl
    · refine hQ (drawStep script x k) _ ⟨k + 1, hkl, h2, ?_⟩ (B4.pick ?_)
      · rw [List.take_add_one, List.foldl_append, ← hx, List.getElem?_range (by simpa using hkl)]; rfl
      · refine al ?_ (al ?_ al0)
        · show _ = some (LV.ls dr ((drawStep script x k).map D.int))
          rw [drawStep, List.map_set]; rfl
        · rfl
  · intro x s2 zp B2
    obtain ⟨k, hk, hr, hx⟩ := zp
    have : k = min 25 script.length := by
      have := congrArg List.length hr
      simp at this; omega
    rw [this, List.take_of_length_le (by simp)] at hx
    refine st_ret B2 (ev_freeze B2 rfl) fun v s' h => by rw [drawnF, ← hx]; exact h
  · intro d v s' hd
    exact hd.elim
end Mine
end
section
open PySem PySem.W PySem.Calls PyProof.Rows
set_option linter.unusedVariables false
set_option maxRecDepth 100000
namespace Mine
set_option genSizeOf false
set_option genInjectivity false
set_option tactic.hygienic false
noncomputable abbrev Let := Int × Int
noncomputable def lateSum (chosen : List Let) (due : Int) : Int := ((chosen.filter fun o => decide (o.1 ≤ due)).map (·.2)).sum
noncomputable def inTimeF (chosen : List Let) (start : Int) : Bool := chosen.all fun p => !decide (p.1 < start + lateSum chosen p.1)
noncomputable def leG (due : Int) : D → Option D := fun d => match d with | .tup [.int a, .int b] => if a ≤ due then some (.int b) else none | _ => none
theorem leG_eq (due : Int) (chosen : List Let) : (chosen.map prD).filterMap (leG due) = ((chosen.filter fun o => decide (o.1 ≤ due)).map (·.2)).map D.int := by
  induction chosen with
  | nil => rfl
  | cons o r ih =>
    have e : leG due (prD o) = if o.1 ≤ due then some (.int o.2) else none := rfl
    rw [List.map_cons, List.filterMap_cons, e, List.filter_cons]
    by_cases h : o.1 ≤ due
    · rw [if_pos h, decide_eq_true h, if_pos rfl, List.map_cons, List.map_cons, ← ih]
    · rw [if_neg h, decide_eq_false h, if_neg (by decide), ← ih]
theorem ok_time : R_time.Ok ["chosen", "start"] where
  mem := inF 19 rfl
  cl := rfl
  bind := fun kV doc pm an ct vs h => by
    obtain ⟨a, b, rfl⟩ := len2 h
    rfl
  kinds := by rfl
  nodup := by decide
  cnodup := by decide
  celled := by rfl
  co := rfl
  gen := rfl
  fun_ := rfl
theorem time_fn {c : Cx} (O : c.Ok) (chosen : List Let) (start : Int) (hs : chosen.length ≤ 1000) : Fn c 10 (.ref 239) [.lst (chosen.map prD), .int start] (.bool (inTimeF chosen start)) := by
  refine Fn.intro (f := R_time) ok_time rfl (by decide) fun X₀ own s₀ s L cells hc B => ?_
  subst hc
  refine st_for (ds := chosen.map prD) (fun uu => own) (fun (x : List Let) => [("chosen", .tr (.lst (chosen.map prD))), ("start", .tr (.int start))])
    (fun rest (x : List Let) => rest = x.map prD ∧ inTimeF chosen start = x.all fun p => !decide (p.1 < start + lateSum chosen p.1)) chosen (fun d => d = .bool (inTimeF chosen start))
    B (ec_list (ev_loc B rfl)).toI ⟨rfl, rfl⟩ rfl ?_ ?_ ?_ ?_
  · exact (pk rfl (pk rfl pk0))
  · intro Q' d rest x X₁ hB s2 hQ hR zp B2 v tv
    obtain ⟨hx, ha⟩ := zp
    cases x with
    | nil => cases hx
    | cons p x =>
    injection hx with h1 h2
    subst h1
    refine use_tuple ["due", "size"] B2 tv fun s3 B3 => ?_
    rw [List.all_cons] at ha
    refine st_if (b := decide (p.1 < start + lateSum chosen p.1)) B3.inv (ev_test (ev_bin B3.ex (ev_loc B3 rfl) (ev_sum O (ev_as (ev_comp (cl := [("due", L + 1)]) [("due", LV.tr (.int p.1))] (leG p.1) B3 ?_ (ec_list (ev_loc (d := .lst (chosen.map prD)) B3 rfl)) ?_ ?_ (by simp; omega)) (congrArg D.lst (leG_eq p.1 chosen)))) bin_add) (ev_loc B3 rfl) cmp_gt) (fun hb s4 E4 I4 => ?_) (fun hb s4 E4 I4 => ?_)
    · exact {
        clos := rfl
        cell := by decide
        kind := rfl
        names := by decide
        clAt := by intro p hp; simp only [List.mem_cons, List.not_mem_nil, or_false] at hp; subst hp; exact ⟨rfl, rfl⟩
        has := by rfl
        apart := List.pairwise_singleton _ _ }
    · intro C q hq
      simp only [List.mem_cons, List.not_mem_nil, or_false] at hq
      subst hq; exact ⟨rfl, rfl⟩
    · intro C d hd
      obtain ⟨o, ho, rfl⟩ := List.mem_map.mp hd
      refine ⟨[("other", .tr (prD o))], asg2_name rfl rfl, fun X₂ own₂ hB' s' B' => ⟨decide (o.1 ≤ p.1), tests_one (ev_test (ev_item_tup (j := 0) (ev_loc B' rfl) ev_int (by decide) (by decide) rfl rfl) (ev_loc B' rfl) cmp_le), fun hb => ?_, fun hb => ⟨.int o.2, ?_, ev_item_tup (j := 1) (ev_loc B' rfl) ev_int (by decide) (by decide) rfl rfl⟩⟩⟩
      · show (if o.1 ≤ p.1 then some (D.int o.2) else none) = none
        rw [if_neg (of_decide_eq_false hb)]
      · show (if o.1 ≤ p.1 then some (D.int o.2) else none) = _
        rw [if_pos (of_decide_eq_true hb)]
    · refine st_ret (B3.ext E4 I4) ev_bool fun u s' h => hR _ _ _ ?_ h
      rw [ha, hb]; rfl
    · refine st_nil (st_nil (hQ x _ ⟨h2, by rw [ha, hb]; rfl⟩ ((B3.ext E4 I4).pick ?_)))
      exact (pk rfl (pk rfl pk0))
  · intro x s1 zp B1
    obtain ⟨hx, ha⟩ := zp
    cases x with
    | cons p x => cases hx
    | nil => exact st_ret B1 ev_bool fun v s' h => by rw [ha]; exact h
  · intro d v s' hd h
    subst hd; exact h
end Mine
end
section
open PySem PySem.W PySem.Calls PyProof.Rows
set_option linter.unusedVariables false
set_option maxRecDepth 100000
namespace Mine
set_option genSizeOf false
set_option genInjectivity false
set_option tactic.hygienic false
noncomputable def bitN (mask j : Nat) : Bool := mask / 2 ^ j % 2 == 1
noncomputable def chosenF (letters : List Let) (k mask : Nat) : List Let := ((List.range (k + 1)).filter (bitN mask)).map fun j => letters.getD j (0, 0)
noncomputable def maskStep (letters : List Let) (start : Int) (k : Nat) (best : List Int) (mask : Nat) : List Int :=
  if inTimeF (chosenF letters k mask) start then
    (if (chosenF letters k mask).length = best.length then best ++ [start + ((chosenF letters k mask).map (·.2)).sum]
     else if start + ((chosenF letters k mask).map (·.2)).sum < best.getD (chosenF letters k mask).length 0 then best.set (chosenF letters k mask).length (start + ((chosenF letters k mask).map (·.2)).sum) else best)
  else best
noncomputable def masksF (k : Nat) : List Nat := (List.range (2 ^ k)).map (2 ^ k + ·)
noncomputable def bestF (letters : List Let) (start : Int) (k : Nat) (best : List Int) : List Int := (masksF k).foldl (maskStep letters start k) best
noncomputable def rowsF (letters : List Let) (start : Int) : Nat → List Int
  | 0 => [start]
  | k + 1 => bestF letters start k (rowsF letters start k)
noncomputable def tablesF (letters : List Let) (start : Int) : List (List Int) := (List.range letters.length).map fun k => rowsF letters start (k + 1)
noncomputable def TabOk (letters : List Let) (start : Int) : Prop := ∀ k, k < letters.length → ∀ j, j < 2 ^ k → inTimeF (chosenF letters k (2 ^ k + j)) start = true →
  (chosenF letters k (2 ^ k + j)).length ≤ (((masksF k).take j).foldl (maskStep letters start k) (rowsF letters start k)).length
theorem ok_tables : R_tables.Ok ["letters", "start"] where
  mem := inF 20 rfl
  cl := rfl
  bind := fun kV doc pm an ct vs h => by
    obtain ⟨a, b, rfl⟩ := len2 h
    rfl
  kinds := by rfl
  nodup := by decide
  cnodup := by decide
  celled := by rfl
  co := rfl
  gen := rfl
  fun_ := rfl
theorem maskStep_len (letters : List Let) (start : Int) (k : Nat) (best : List Int) (mask : Nat) : (maskStep letters start k best mask).length ≤ best.length + 1 := by
  unfold maskStep
  split
  · split
    · simp
    · split <;> simp
  · omega
noncomputable def bitG (letters : List Let) (mask : Nat) : D → Option D := fun d => match d with | .int j => if bitN mask j.toNat then some (prD (letters.getD j.toNat (0, 0))) else none | _ => none
theorem bitG_eq (letters : List Let) (k mask : Nat) : (rangeL 0 ((k : Int) + 1)).filterMap (bitG letters mask) = (chosenF letters k mask).map prD := by
  unfold rangeL chosenF
  rw [show (((k : Int) + 1 - 0).toNat) = k + 1 by omega]
  generalize List.range (k + 1) = l
  induction l with
  | nil => rfl
  | cons j l ih =>
    have e : bitG letters mask (.int (0 + (j : Int))) = if bitN mask j then some (prD (letters.getD j (0, 0))) else none := by
      show (if bitN mask (0 + (j : Int)).toNat then some (prD (letters.getD (0 + (j : Int)).toNat (0, 0))) else none) = _
      rw [show (0 + (j : Int)).toNat = j by omega]
    rw [List.map_cons, List.filterMap_cons, e, List.filter_cons]
    by_cases h : bitN mask j = true
    · rw [if_pos h, if_pos h, List.map_cons, List.map_cons, ← ih]
    · rw [if_neg h, if_neg h, ← ih]
noncomputable def sizeG : D → Option D := fun d => match d with | .tup [.int a, .int b] => some (.int b) | _ => none
theorem sizeG_eq (l : List Let) : (l.map prD).filterMap sizeG = (l.map (·.2)).map D.int := by
  induction l with
  | nil => rfl
  | cons o r ih =>
    have e : sizeG (prD o) = some (.int o.2) := rfl
    rw [List.map_cons, List.filterMap_cons, e, List.map_cons, List.map_cons, ← ih]
theorem bit_test (mask j : Nat) : (((mask : Int) / ((2 : Int) ^ j)) % 2 == 1) = bitN mask j := by
  have : ((mask : Int) / ((2 : Int) ^ j)) % 2 = ((mask / 2 ^ j % 2 : Nat) : Int) := by
    norm_cast
  rw [this, bitN, Bool.eq_iff_iff]
  simp; omega
theorem mask_lt {k j : Nat} (h : 2 ^ k ≤ 1024) (hj : j < 2 ^ k) : 2 ^ k + j < 100000 := by
  generalize 2 ^ k = N at h hj ⊢; omega
set_option maxHeartbeats 1000000 in
theorem tables_fn {c : Cx} (O : c.Ok) (letters : List Let) (start : Int) (hs : letters.length ≤ 8) (hok : TabOk letters start) : Fn c 8 (.ref 244) [.lst (letters.map prD), .int start] (.lst ((tablesF letters start).map fun t => .lst (t.map D.int))) := by
  refine Fn.intro (f := R_tables) ok_tables rfl (by decide) fun X₀ own s₀ s L cells hc B => ?_
  subst hc
  refine st_live B (evn_lst (.cons (ev_loc B rfl) .nil)) fun bA s1 nr1 nx1 B1 => ?_
  refine st_live B1 (evn_lst .nil) fun tA s2 nr2 nx2 B2 => ?_
  have nAB : tA ≠ bA := fun q => nr2 (.inr q)
  refine st_for (ds := (List.range letters.length).map fun i : Nat => D.int i) (fun uu => fun a => (own a ∨ a = bA) ∨ a = tA)
    (fun (x : List Int × List (List Int)) => [("tables", .ls tA (x.2.map fun t => .lst (t.map D.int))), ("best", .ls bA (x.1.map D.int)), ("letters", .tr (.lst (letters.map prD))), ("start", .tr (.int start))])
    (fun rest (x : List Int × List (List Int)) => ∃ k, k ≤ letters.length ∧ rest = ((List.range letters.length).drop k).map (fun i : Nat => D.int i) ∧ x.1 = rowsF letters start k ∧ x.2 = (List.range k).map fun k => rowsF letters start (k + 1)) ([start], []) (fun d => False)
    B2 ?_ ⟨0, by omega, rfl, rfl, rfl⟩ rfl ?_ ?_ ?_ ?_
  · have hr : rangeL 0 ((letters.map prD).length : Int) = (List.range letters.length).map fun i : Nat => D.int i := by
      unfold rangeL
      rw [show ((((letters.map prD).length : Nat) : Int) - 0).toNat = letters.length by simp]
      apply List.map_congr_left
      intro i _; rw [Int.zero_add]
    rw [← hr]
    exact (ec_range_of (ev_range1 O (ev_len O (ev_loc B2 rfl) (by simp; omega))) (by decide) (by decide) (by omega) (by simp; omega)).toI
  · exact (pk rfl (pk rfl (pk rfl (pk rfl pk0))))
  · intro Q' d rest x X₁ hB s3 hQ hR zp B3 v tv
    obtain ⟨k, hk, hr, hx1, hx2⟩ := zp
    have hkl : k < letters.length := by
      apply Nat.lt_of_not_le
      intro q
      rw [List.drop_of_length_le (by simpa using q)] at hr
      cases hr
    rw [List.drop_eq_getElem_cons (by simpa using hkl), List.map_cons, List.getElem_range] at hr
    injection hr with h1 h2
    subst h1
    have xl : x.2.length ≤ 100 := by rw [hx2]; simp; omega
    have rl : ∀ k, k ≤ letters.length → (rowsF letters start k).length ≤ 2 ^ k := by
      intro k
      induction k with
      | zero => intro _; exact Nat.le_refl _
      | succ k ih =>
        intro hk
        have ih := ih (by omega)
        show (bestF letters start k (rowsF letters start k)).length ≤ _
        have : ∀ (l : List Nat) (a : List Int), (l.foldl (maskStep letters start k) a).length ≤ a.length + l.length := by
          intro l
          induction l with
          | nil => intro a; simp
          | cons y l ih => intro a; rw [List.foldl_cons]; have := ih (maskStep letters start k a y); have := maskStep_len letters start k a y; simp only [List.length_cons]; omega
        have := this (masksF k) (rowsF letters start k)
        unfold bestF
        rw [show (masksF k).length = 2 ^ k by simp [masksF]] at this
        rw [Nat.pow_succ]; omega
    have p8 : 2 ^ k ≤ 256 := by
      have : 2 ^ k ≤ 2 ^ 8 := Nat.pow_le_pow_right (by decide) (by omega)
      exact this
    have p10 : 2 ^ k ≤ 1024 := Nat.le_trans p8 (by decide)
    refine use_name B3 tv fun s4 B4 => ?_
    refine st_for (ds := (masksF k).map fun i : Nat => D.int i) (fun uu => fun a => (own a ∨ a = bA) ∨ a = tA)
      (fun (y : List Int) => [("best", .ls bA (y.map D.int)), ("tables", .ls tA (x.2.map fun t => .lst (t.map D.int))), ("k", .tr (.int k)), ("letters", .tr (.lst (letters.map prD))), ("start", .tr (.int start))])
      (fun rest (y : List Int) => ∃ j, j ≤ 2 ^ k ∧ rest = ((masksF k).drop j).map (fun i : Nat => D.int i) ∧ y = ((masksF k).take j).foldl (maskStep letters start k) (rowsF letters start k)) x.1 (fun d => False)
      B4 ?_ ⟨0, Nat.zero_le _, rfl, hx1⟩ rfl ?_ ?_ ?_ ?_
    · have hr : rangeL ((2 : Int) ^ (k : Int).toNat) ((2 : Int) ^ ((k : Int) + 1).toNat) = (masksF k).map fun i : Nat => D.int i := by
        unfold rangeL masksF
        rw [show ((k : Int) + 1).toNat = k + 1 by omega, Int.toNat_natCast, Int.pow_succ]
        have e : ((2 : Int) ^ k * 2 - 2 ^ k).toNat = 2 ^ k := by
          have : ((2 : Int) ^ k) = ((2 ^ k : Nat) : Int) := by norm_cast
          rw [this]
          generalize 2 ^ k = N
          omega
        rw [e, List.map_map]
        apply List.map_congr_left
        intro i _
        show D.int ((2 : Int) ^ k + (i : Int)) = D.int ((2 ^ k + i : Nat) : Int)
        norm_cast
      rw [← hr]
      have q1 : ((2 : Int) ^ (k : Int).toNat) = ((2 ^ k : Nat) : Int) := by rw [Int.toNat_natCast]; norm_cast
      have q2 : ((2 : Int) ^ ((k : Int) + 1).toNat) = ((2 ^ k * 2 : Nat) : Int) := by rw [show ((k : Int) + 1).toNat = k + 1 by omega, ← Nat.pow_succ]; norm_cast
      refine (ec_range_of (ev_range2 O (ev_bin B4.ex ev_int (ev_loc B4 rfl) (bin_pow (by omega) (by omega) (by decide))) (ev_bin B4.ex ev_int (ev_bin B4.ex (ev_loc B4 rfl) ev_int bin_add) (bin_pow (by omega) (by omega) (by decide)))) ?_ ?_ ?_ ?_).toI
      all_goals first | rw [q1] | rw [q2]
      all_goals (generalize 2 ^ k = N at p10 ⊢; omega)
    · exact (pk rfl (pk rfl (pk rfl (pk rfl (pk rfl pk0)))))
    · intro Q₂ d rest y X₂ hB2 s5 hQ hR zp B5 v tv
      obtain ⟨j, hj, hr, hy⟩ := zp
      have hml : (masksF k).length = 2 ^ k := by simp [masksF]
      have hjl : j < 2 ^ k := by
        apply Nat.lt_of_not_le
        intro q
        rw [List.drop_of_length_le (by rw [hml]; exact q)] at hr
        cases hr
      have hmj : (masksF k)[j]'(by rw [hml]; exact hjl) = 2 ^ k + j := by simp [masksF]
      rw [List.drop_eq_getElem_cons (by rw [hml]; exact hjl), List.map_cons, hmj] at hr
      injection hr with h1 h2
      subst h1
      have hlen := hok k hkl j hjl
      rw [← hy] at hlen
      have hstep : ((masksF k).take (j + 1)).foldl (maskStep letters start k) (rowsF letters start k) = maskStep letters start k y (2 ^ k + j) := by
        rw [List.take_add_one, List.foldl_append, ← hy, List.getElem?_eq_getElem (by rw [hml]; exact hjl), hmj]; rfl
      have yl : y.length ≤ 600 := by
        have : ∀ (l : List Nat) (a : List Int), (l.foldl (maskStep letters start k) a).length ≤ a.length + l.length := by
          intro l
          induction l with
          | nil => intro a; simp
          | cons y l ih => intro a; rw [List.foldl_cons]; have := ih (maskStep letters start k a y); have := maskStep_len letters start k a y; simp only [List.length_cons]; omega
        have h3 := this ((masksF k).take j) (rowsF letters start k)
        rw [← hy] at h3
        have h4 := rl k (by omega)
        have h5 : ((masksF k).take j).length ≤ 2 ^ k := by simp [hml]; omega
        omega
      have mlt := mask_lt p10 hjl
      clear hmj
      have fin : ∀ s9, Bd c (R_tables.env L (cellsFrom (L + 1) (scOf R_tables.st).names [])) X₂ (fun a => (own a ∨ a = bA) ∨ a = tA) (fun a => (own a ∨ a = bA) ∨ a = tA) hB2 s₀.os s9 [("best", .ls bA ((maskStep letters start k y (2 ^ k + j)).map D.int)), ("tables", .ls tA (x.2.map fun t => .lst (t.map D.int))), ("k", .tr (.int k)), ("letters", .tr (.lst (letters.map prD))), ("start", .tr (.int start))] → Q₂ .next s9 :=
        fun s9 B9 => hQ _ s9 ⟨j + 1, hjl, h2, hstep.symm⟩ B9
      refine use_name B5 tv fun s6 B6 => ?_
      generalize 2 ^ k + j = M at hlen mlt fin B6 ⊢
      clear hstep
      have cl : (chosenF letters k M).length ≤ 100 := by
        have : ((List.range (k + 1)).filter (bitN M)).length ≤ (List.range (k + 1)).length := List.length_filter_le _ _
        simp [chosenF] at this ⊢; omega
      refine st_comp (cl := [("mask", L + 2), ("letters", L + 1)]) [("letters", LV.tr (.lst (letters.map prD))), ("mask", LV.tr (.int M))] (bitG letters M) B6 ?_
        (ec_range_of (ev_range1 O (ev_bin B6.ex (ev_loc B6 rfl) ev_int bin_add)) (by decide) (by decide) (by omega) (by omega)) ?_ ?_ (by simp [rangeL]; omega) fun s7 B7 => ?_
      · exact {
          clos := rfl
          cell := by decide
          kind := rfl
          names := by decide
          clAt := by
            refine al ?_ (al ?_ al0) <;> exact ⟨rfl, rfl⟩
          has := by rfl
          apart := by
            refine List.Pairwise.cons (fun p hp => ?_) (List.pairwise_singleton _ _)
            simp only [List.mem_cons, List.not_mem_nil, or_false] at hp
            subst hp
            exact Nat.ne_of_gt (Nat.lt_succ_self _) }
      · intro C
        refine al ?_ (al ?_ al0) <;> exact ⟨rfl, rfl⟩
      · intro C d hd
        obtain ⟨i, hi, rfl⟩ := List.mem_map.mp hd
        have hi : i < k + 1 := by have := List.mem_range.mp hi; omega
        have hil : i < letters.length := by omega
        have hpi : (2 : Int) ^ i = ((2 ^ i : Nat) : Int) := by norm_cast
        have hpb : 2 ^ i ≤ 1024 := by
          have : 2 ^ i ≤ 2 ^ 10 := Nat.pow_le_pow_right (by decide) (by omega)
          exact this
        have hp0 : 0 < 2 ^ i := Nat.pow_pos (by decide)
        rw [Int.zero_add]
        have ei : bitG letters M (.int (i : Int)) = if bitN M i then some (prD (letters.getD i (0, 0))) else none := by
          show (if bitN M (i : Int).toNat then some (prD (letters.getD (i : Int).toNat (0, 0))) else none) = _
          rw [Int.toNat_natCast]
        rw [ei]
        refine ⟨[("j", .tr (.int (i : Int)))], asg2_name rfl rfl, fun X₂ own₂ hB' s' B' => ⟨bitN M i, tests_one ?_, fun hb => by rw [hb]; rfl, fun hb => ⟨prD (letters.getD i (0, 0)), by rw [hb]; rfl, ?_⟩⟩⟩
        · have bt := bit_test M i
          rw [← bt]
          exact ev_test (ev_bin B'.ex (ev_bin B'.ex (ev_loc B' rfl) (ev_bin B'.ex ev_int (ev_loc B' rfl) (bin_pow (by omega) (by omega) (by decide))) (bin_fdiv (by rw [Int.toNat_natCast, hpi]; omega) (by rw [Int.toNat_natCast, hpi]; omega))) ev_int (bin_mod (by decide))) ev_int cmp_eq
        · refine ev_item_lst (ev_loc (d := .lst (letters.map prD)) B' rfl) (ev_loc B' rfl) (by omega) (by omega) ?_
          rw [Int.toNat_natCast, List.getElem?_map, List.getElem?_eq_getElem hil, List.getD_eq_getElem?_getD, List.getElem?_eq_getElem hil]; rfl
      rw [bitG_eq] at B7
      refine st_if (b := inTimeF (chosenF letters k M) start) B7.inv (ev_true (ev_callN (f := R_time) (ds := [.lst ((chosenF letters k M).map prD), .int start]) B7.ex (ev_fn O B7.inv (inF 10 rfl) rfl) (inF 19 rfl) (Fn.weak (time_fn O _ _ (by omega)) (by decide)) (.cons (ev_loc B7 rfl) (.cons (ev_loc B7 rfl) .nil)))) (fun hb s8 E8 I8 => ?_) (fun hb s8 E8 I8 => ?_)
      · have B8 := B7.ext E8 I8
        have hlen := hlen hb
        refine st_assign (d := .int (start + ((chosenF letters k M).map (·.2)).sum)) B8 (ev_bin B8.ex (ev_loc B8 rfl) (ev_sum O (ev_as (ev_comp (cl := []) [] sizeG B8 ?_ (ec_list (ev_loc B8 rfl)) ?_ ?_ (by simp; omega)) (congrArg D.lst (sizeG_eq _)))) bin_add) fun s9 B9 => ?_
        · exact {
            clos := rfl
            cell := by decide
            kind := rfl
            names := by decide
            clAt := fun p hp => nomatch hp
            has := by rfl
            apart := List.Pairwise.nil }
        · exact fun C q hq => nomatch hq
        · intro C d hd
          obtain ⟨o, ho, rfl⟩ := List.mem_map.mp hd
          exact ⟨_, asg2_tuple (xs := ["due", "size"]) (ds := [.int o.1, .int o.2]) rfl rfl rfl rfl, fun X₂ own₂ hB' s' B' => ⟨true, tests_nil, (fun h => nomatch h), fun hb => ⟨.int o.2, rfl, ev_loc B' rfl⟩⟩⟩
        have hstep1 : maskStep letters start k y M = if (chosenF letters k M).length = y.length then y ++ [start + ((chosenF letters k M).map (·.2)).sum] else if start + ((chosenF letters k M).map (·.2)).sum < y.getD (chosenF letters k M).length 0 then y.set (chosenF letters k M).length (start + ((chosenF letters k M).map (·.2)).sum) else y := by
          rw [maskStep, if_pos hb]
        generalize start + ((chosenF letters k M).map (·.2)).sum = hour at B9 hstep1
        have l1 : ((chosenF letters k M).map prD).length = (chosenF letters k M).length := by simp
        have l2 : (y.map D.int).length = y.length := by simp
        refine st_if (b := (((chosenF letters k M).map prD).length : Int) == ((y.map D.int).length : Int)) B9.inv (ev_test (ev_len O (ev_loc B9 rfl) (by rw [l1]; omega)) (ev_len_live O B9 rfl (by rw [l2]; omega)) cmp_eq) (fun hc s10 E10 I10 => ?_) (fun hc s10 E10 I10 => ?_)
        · rw [l1, l2, beq_iff_eq] at hc
          have hc : (chosenF letters k M).length = y.length := by omega
          rw [if_pos hc] at hstep1
          refine st_append (d := .int hour) (B9.ext E10 I10) rfl (ev_loc (B9.ext E10 I10) rfl) (by rw [l2]; omega) (hap_of2 (z := "tables") rfl fun b es h => by cases h; exact nAB) fun s11 B11 => st_nil (st_nil (st_nil (fin s11 (B11.pick ?_))))
          refine al ?_ (al ?_ (al ?_ (al ?_ (al ?_ al0))))
          · rw [hstep1, List.map_append]; rfl
          all_goals rfl
        · rw [l1, l2, beq_eq_false_iff_ne] at hc
          have hc : ¬ (chosenF letters k M).length = y.length := by omega
          rw [if_neg hc] at hstep1
          have hlt : (chosenF letters k M).length < y.length := by omega
          have hyg : (y.map D.int)[(chosenF letters k M).length]? = some (.int (y.getD (chosenF letters k M).length 0)) := by
            rw [List.getElem?_map, List.getElem?_eq_getElem hlt, List.getD_eq_getElem?_getD, List.getElem?_eq_getElem hlt]; rfl
          have B10 := B9.ext E10 I10
          refine st_if (b := decide (hour < y.getD (chosenF letters k M).length 0)) B10.inv (ev_test (ev_loc B10 rfl) (ev_item_live (i := (((chosenF letters k M).map prD).length : Int)) B10 rfl (ev_len O (ev_loc B10 rfl) (by rw [l1]; omega)) (by omega) (by rw [l1]; omega) (by rw [l1, Int.toNat_natCast]; exact hyg)) cmp_lt) (fun hd s11 E11 I11 => ?_) (fun hd s11 E11 I11 => ?_)
          · have B11 := B10.ext E11 I11
            rw [if_pos (of_decide_eq_true hd)] at hstep1
            refine st_setitem (k := (((chosenF letters k M).map prD).length : Int)) B11 rfl (ev_loc B11 rfl) (ev_len O (ev_loc B11 rfl) (by rw [l1]; omega)) (by omega) (by rw [l1, l2]; omega) (by rw [l2]; omega) (hap_of2 (z := "tables") rfl fun b es h => by cases h; exact nAB) fun s12 B12 => st_nil (st_nil (st_nil (st_nil (fin s12 (B12.pick ?_)))))
            refine al ?_ (al ?_ (al ?_ (al ?_ (al ?_ al0))))
            · rw [hstep1, List.map_set, l1]; rfl
            all_goals rfl
          · rw [if_neg (of_decide_eq_false hd)] at hstep1
            refine st_nil (st_nil (st_nil (st_nil (fin s11 ((B10.ext E11 I11).pick ?_)))))
            refine al ?_ (al ?_ (al ?_ (al ?_ (al ?_ al0))))
            · rw [hstep1]; rfl
            all_goals rfl
      · refine st_nil (st_nil (fin s8 ((B7.ext E8 I8).pick ?_)))
        refine al ?_ (al ?_ (al ?_ (al ?_ (al ?_ al0))))
        · rw [maskStep, if_neg (by rw [hb]; decide)]; rfl
        all_goals rfl
    · intro y s5 zp B5
      obtain ⟨j, hj, hr, hy⟩ := zp
      have hml : (masksF k).length = 2 ^ k := by simp [masksF]
      have : j = 2 ^ k := by
        have := congrArg List.length hr
        simp [hml] at this; omega
      subst this
      rw [List.take_of_length_le (by rw [hml]; exact Nat.le_refl _)] at hy
      have hy : y = rowsF letters start (k + 1) := hy
      refine st_append (d := .lst (y.map D.int)) B5 rfl (ev_as ((evn_slice_live (i := none) (j := none) B5 rfl evpt_none evpt_none (fun a h => nomatch h) (fun a b h => nomatch h) (by
        have := rl (k + 1) (by omega)
        rw [hy]; simp; rw [Nat.pow_succ] at this; omega)).tr B5.ex) rfl) (by simp; omega) (hap_of2 (z := "best") rfl fun b es h => by cases h; exact Ne.symm nAB) fun s6 B6 => st_nil (hQ (y, x.2 ++ [y]) _ ⟨k + 1, hkl, h2, hy, ?_⟩ (B6.pick ?_))
      · show x.2 ++ [y] = _
        rw [List.range_succ, List.map_append, ← hx2, hy]; rfl
      · refine al ?_ (al ?_ (al ?_ (al ?_ al0)))
        · show _ = some (LV.ls tA ((x.2 ++ [y]).map fun t => .lst (t.map D.int)))
          rw [List.map_append]; rfl
        · rfl
        · rfl
        · rfl
    · intro d v s' hd
      exact hd.elim
  · intro x s3 zp B3
    obtain ⟨k, hk, hr, hx1, hx2⟩ := zp
    have : k = letters.length := by
      have := congrArg List.length hr
      simp at this; omega
    subst this
    refine st_ret B3 (ev_freeze B3 rfl) fun v s' h => ?_
    have : tablesF letters start = x.2 := by rw [hx2]; rfl
    rw [this]; exact h
  · intro d v s' hd
    exact hd.elim
end Mine
end
section
open PySem PySem.W PySem.Calls PyProof.Rows
set_option linter.unusedVariables false
set_option maxRecDepth 100000
namespace Mine
set_option genSizeOf false
set_option genInjectivity false
set_option tactic.hygienic false
section
variable {c : Cx} {n : Nat} {env : Env} {X X₀ own Z : Addr → Prop} {hA : Heap} {os : OsState} {s s' s₀ : Shared} {σ : List (Str × LV)} {d : D} {ds : List D} {pos : Pos} {rest body : List Stmt} {Q : Flow → Shared → Prop}
noncomputable def zipD (as bs : List D) : List D := List.zipWith (fun a b => D.tup [a, b]) as bs
inductive JZip (z TI TO i1 i2 l1 l2 : Addr) (X : Addr → Prop) (rest : List D) (s : Shared) : Prop
  | mk (i : Nat) (xs ys : Array Value) (as bs : List D) (a b : Value) (n1 : ¬ X l1) (n2 : ¬ X l2) (h1 : IsZip s.heap z TI TO .none) (h2 : IsPair s.heap TI (.ref i1) (.ref i2)) (h3 : IsPair s.heap TO a b) (h4 : s.heap.IsListIter i1 l1 i) (h5 : s.heap.IsListIter i2 l2 i) (h6 : IsL s.heap l1 xs) (h7 : IsL s.heap l2 ys) (h8 : TrL s.heap X as (xs.toList.drop i)) (h9 : TrL s.heap X bs (ys.toList.drop i)) (h10 : rest = zipD as bs) : JZip z TI TO i1 i2 l1 l2 X rest s
theorem iter_zip {z TI TO i1 i2 l1 l2 : Addr} (A : ZipApart z TI TO i1 i2 l1 l2) (fz : @LT.lt Nat _ 256 z) (fT : @LT.lt Nat _ 256 TI) (fO : @LT.lt Nat _ 256 TO) (f1 : @LT.lt Nat _ 256 i1) (f2 : @LT.lt Nat _ 256 i2) :
    IterOk c n z (fun a => a = z ∨ a = TI ∨ a = TO ∨ a = i1 ∨ a = i2) (JZip z TI TO i1 i2 l1 l2) true where
  far := fun a e => by rcases e with rfl | rfl | rfl | rfl | rfl <;> assumption
  next := fun X d rest s target hX hex htp zp I => by
    obtain ⟨i, xs, ys, as, bs, a, b, n1, n2, hz, hTI, hTO, h1, h2, hl1, hl2, t1, t2, hr⟩ := zp
    cases as with
    | nil => cases hr
    | cons da as =>
    cases bs with
    | nil => cases hr
    | cons db bs =>
    obtain ⟨x, r1, e1, tx, t1⟩ := t1
    obtain ⟨y, r2, e2, ty, t2⟩ := t2
    have hx : xs[i]? = some x := by have := congrArg (·[0]?) e1; simpa using this
    have hy : ys[i]? = some y := by have := congrArg (·[0]?) e2; simpa using this
    have d1 : xs.toList.drop (i + 1) = r1 := by have := congrArg List.tail e1; simpa [List.tail_drop] using this
    have d2 : ys.toList.drop (i + 1) = r2 := by have := congrArg List.tail e2; simpa [List.tail_drop] using this
    injection hr with g1 g2
    subst g1
    refine wpAny_pyNext_zip_item A hz hTI hTO h1 h2 hl1.is hl2.is hx hy fun h' hz' hTO' h1' h2' hP hsz hk => ⟨_, rfl, ?_⟩
    obtain ⟨elts, k1, p1, rfl⟩ := isTupE_ok (htp rfl)
    · refine wpAny_letOwnedTupleGo_zip hz' fun h3 hz3 hs3 => ?_
      have lt : ∀ {q : Addr} {o : Obj}, s.heap.get? q = some o → s.heap.objs.size ≠ q := fun e => Nat.ne_of_gt (Heap.lt_size e)
      have ne : s.heap.objs.size ≠ z := lt hz
      have kp : Kp (fun a => a = z ∨ a = TI ∨ a = TO ∨ a = i1 ∨ a = i2) s.heap h3 := fun q o e => by
        by_cases q1 : q = z
        · exact .inl (.inl q1)
        by_cases q2 : q = TO
        · exact .inl (.inr (.inr (.inl q2)))
        by_cases q3 : q = i1
        · exact .inl (.inr (.inr (.inr (.inl q3))))
        by_cases q4 : q = i2
        · exact .inl (.inr (.inr (.inr (.inr q4))))
        exact .inr (.inl (hs3.extBut q o q1 (hk q o q1 q2 q3 q4 e)))
      have kk : ∀ q o, q ≠ z → q ≠ TO → q ≠ i1 → q ≠ i2 → s.heap.get? q = some o → h3.get? q = some o := fun q o q1 q2 q3 q4 e => hs3.extBut q o q1 (hk q o q1 q2 q3 q4 e)
      have mv : Mv s.heap h3 X X := ⟨fun q o nq e hc => kp.get e (fun w => nq (hX q w)) hc, fun uu nn uu => nn⟩
      have hTI3 : IsPair h3 TI (.ref i1) (.ref i2) := kk _ _ A.TIz A.TITO A.TIi1 A.TIi2 hTI
      have hTO3 : IsPair h3 TO x y := hs3.extBut _ _ A.TOz hTO'
      have h13 := h1'.at fun o e => hs3.extBut i1 o A.i1z e
      have h23 := h2'.at fun o e => hs3.extBut i2 o A.i2z e
      refine ⟨I.kp (s' := { s with heap := h3 }) kp (fun a e => by rcases e with rfl | rfl | rfl | rfl | rfl <;> assumption) I.bare, rfl, kp, fun q e => ?_, ⟨i + 1, xs, ys, as, bs, x, y, n1, n2, hz3, hTI3, hTO3, h13, h23,
        list_obj hl1 fun o q1 q2 => mv.get l1 o n1 q1 q2, list_obj hl2 fun o q1 q2 => mv.get l2 o n2 q1 q2, by rw [d1]; exact TrL.mv mv _ _ t1, by rw [d2]; exact TrL.mv mv _ _ t2, g2⟩, s.heap.objs.size, #[x, y], rfl, fun q => ?_, ⟨0, hs3.extBut _ _ ne hP⟩, x, [y], rfl, Tr.mv mv _ _ tx, y, [], rfl, Tr.mv mv _ _ ty, rfl⟩
      · rcases e with rfl | rfl | rfl | rfl | rfl
        · rw [show _ = some _ from hz3]; rfl
        · rw [show _ = some _ from hTI3]; rfl
        · rw [show _ = some _ from hTO3]; rfl
        · obtain ⟨o, ho, _⟩ := h13; rw [show _ = some o from ho]; rfl
        · obtain ⟨o, ho, _⟩ := h23; rw [show _ = some o from ho]; rfl
      · have := hex _ q
        rw [size_none] at this; cases this
  stop := fun X s zp I => by
    obtain ⟨i, xs, ys, as, bs, a, b, n1, n2, hz, hTI, hTO, h1, h2, hl1, hl2, t1, t2, hr⟩ := zp
    have hend : xs[i]? = none ∨ ys[i]? = none := by
      cases as with
      | nil =>
        have := congrArg List.length (show xs.toList.drop i = [] from t1)
        simp at this
        exact .inl (Array.getElem?_eq_none (by omega))
      | cons _ _ =>
        cases bs with
        | nil =>
          have := congrArg List.length (show ys.toList.drop i = [] from t2)
          simp at this
          exact .inr (Array.getElem?_eq_none (by omega))
        | cons _ _ => cases hr
    refine wpAny_pyNext_zip_end rfl A hz hTI hTO h1 h2 hl1.is hl2.is hend fun h' hk => ?_
    have kp : Kp (fun a => a = z ∨ a = TI ∨ a = TO ∨ a = i1 ∨ a = i2) s.heap h' := fun q o e => by
      by_cases q1 : q = z
      · exact .inl (.inl q1)
      by_cases q2 : q = TO
      · exact .inl (.inr (.inr (.inl q2)))
      by_cases q3 : q = i1
      · exact .inl (.inr (.inr (.inr (.inl q3))))
      by_cases q4 : q = i2
      · exact .inl (.inr (.inr (.inr (.inr q4))))
      exact .inr (.inl (hk q o q1 q2 q3 q4 e))
    exact ⟨rfl, I.kp kp (fun a e => by rcases e with rfl | rfl | rfl | rfl | rfl <;> assumption) I.bare, rfl, kp⟩
  keep := fun X X' rest s s' zp mv ki => by
    obtain ⟨i, xs, ys, as, bs, a, b, n1, n2, hz, hTI, hTO, h1, h2, hl1, hl2, t1, t2, hr⟩ := zp
    exact ⟨i, xs, ys, as, bs, a, b, mv.open_ l1 n1 (list_some hl1), mv.open_ l2 n2 (list_some hl2), ki z _ (.inl rfl) hz (by intro e; cases e), ki TI _ (.inr (.inl rfl)) hTI (by intro e; cases e), ki TO _ (.inr (.inr (.inl rfl))) hTO (by intro e; cases e),
      listIter_kp h1 fun o e hc => ki i1 o (.inr (.inr (.inr (.inl rfl)))) e hc, listIter_kp h2 fun o e hc => ki i2 o (.inr (.inr (.inr (.inr rfl)))) e hc, list_obj hl1 fun o e hc => mv.get l1 o n1 e hc, list_obj hl2 fun o e hc => mv.get l2 o n2 e hc, TrL.mv mv _ _ t1, TrL.mv mv _ _ t2, hr⟩
theorem ei_zip {p : Pos} {e1 e2 : Expr} {as bs : List D} (O : c.Ok) (h1 : EvD c n X s (eval e1 env) (.lst as)) (h2 : EvD c n X s (eval e2 env) (.lst bs)) (hns : autoParam (noStar [e1, e2] = true) tacR) (hk : autoParam (env.scope.kind = .function) tacR) (hxx : autoParam (env.kindOf "zip" = some .globalImplicit) tacR) (hgl : autoParam (env.globals = mainGlobals) tacR) (hbl : autoParam (env.builtins = builtinsNs) tacR) :
    EvI c n X s (eval (.Call (.Name "zip" p) [e1, e2] [] pos) env) (zipD as bs) true := fun s0 k0 I0 => by
  have key : Ev c n s0 (eval (.Call (.Name "zip" p) [e1, e2] [] pos) env) (fun s v => ∃ z TI TO i1 i2 l1 l2, v = .ref z ∧ ZipApart z TI TO i1 i2 l1 l2 ∧ (∀ a, (a = z ∨ a = TI ∨ a = TO ∨ a = i1 ∨ a = i2) → s0.heap.get? a = none ∧ @LT.lt Nat _ 256 a ∧ (s.heap.get? a).isSome = true) ∧ JZip z TI TO i1 i2 l1 l2 (fun b => X b ∨ b = z ∨ b = TI ∨ b = TO ∨ b = i1 ∨ b = i2) (zipD as bs) s) := by
    refine ev_tcall (T := "zip") ((blt_name O (inF 4 rfl) boot_zip (by decide) hk hxx hgl hbl)) (EvEs.evl (.cons (h1.at k0) (.cons (h2.at k0) .nil))) (fun vs s1 k1 I1 zp => ?_) hns
    obtain ⟨v, r, ev, ⟨l1, xs, hv, n1, hl1, t1⟩, v2, r2, er, ⟨l2, ys, hv2, n2, hl2, t2⟩, er2⟩ := zp
    have er2 : r2 = [] := er2
    subst er2 er ev hv hv2
    intro s2 k2 I2
    have hl1 := list_obj hl1 fun o q1 q2 => k2.keep.get q1 q2
    have hl2 := list_obj hl2 fun o q1 q2 => k2.keep.get q1 q2
    have t1 := TrL.ext t1 k2
    have t2 := TrL.ext t2 k2
    refine call_zip_2 hl1.is hl2.is fun h' hz hTI hTO g1 g2 hsz hk => ?_
    have big : ∀ k, s2.heap.get? (s2.heap.objs.size + k) = none := fun k => by
      cases q : s2.heap.get? (s2.heap.objs.size + k) with
      | none => rfl
      | some o => exact absurd (Heap.lt_size q) (Nat.not_lt.mpr (Nat.le_add_right _ _))
    have lt : ∀ {q : Addr} {o : Obj} (k : Nat), s2.heap.get? q = some o → q ≠ s2.heap.objs.size + k := fun k e h => by
      rw [h, big k] at e; cases e
    have far : ∀ k : Nat, @LT.lt Nat _ 256 (s2.heap.objs.size + k) := fun k => Nat.lt_of_lt_of_le I2.size (Nat.le_add_right _ _)
    have E : Ext s2 { s2 with heap := h' } := ⟨Keep.full hk, rfl⟩
    have ne : ∀ {i j : Nat}, i ≠ j → s2.heap.objs.size + i ≠ s2.heap.objs.size + j := fun h q => h (Nat.add_left_cancel q)
    have ne0 : ∀ {j : Nat}, 0 ≠ j → s2.heap.objs.size ≠ s2.heap.objs.size + j := fun {j} h => ne (i := 0) h
    obtain ⟨m1, hm1⟩ := id hl1
    obtain ⟨m2, hm2⟩ := id hl2
    refine ⟨E, I2.keep E.keep I2.bare, s2.heap.objs.size + 4, s2.heap.objs.size + 2, s2.heap.objs.size + 3, s2.heap.objs.size, s2.heap.objs.size + 1, l1, l2, rfl,
      ⟨ne (by decide), ne (by decide), ne0 (by decide), ne (by decide), ne (by decide), Ne.symm (ne0 (by decide)), ne (by decide), Ne.symm (ne0 (by decide)), ne (by decide), ne0 (by decide), lt 4 hm1, lt 3 hm1, lt 0 hm1, lt 1 hm1, lt 4 hm2, lt 3 hm2, lt 0 hm2, lt 1 hm2⟩, fun a e => ?_, ?_⟩
    · have k12 := k1.trans k2
      rcases e with rfl | rfl | rfl | rfl | rfl
      · exact ⟨ext_none k12 (big 4), far 4, by show (h'.get? _).isSome = true; rw [show _ = some _ from hz]; rfl⟩
      · exact ⟨ext_none k12 (big 2), far 2, by show (h'.get? _).isSome = true; rw [show _ = some _ from hTI]; rfl⟩
      · exact ⟨ext_none k12 (big 3), far 3, by show (h'.get? _).isSome = true; rw [show _ = some _ from hTO]; rfl⟩
      · exact ⟨ext_none k12 (big 0), far 0, by obtain ⟨o, ho, _⟩ := g1; show (h'.get? _).isSome = true; rw [show _ = some o from ho]; rfl⟩
      · exact ⟨ext_none k12 (big 1), far 1, by obtain ⟨o, ho, _⟩ := g2; show (h'.get? _).isSome = true; rw [show _ = some o from ho]; rfl⟩
    · have mv : Mv s2.heap h' X (fun b => X b ∨ b = s2.heap.objs.size + 4 ∨ b = s2.heap.objs.size + 2 ∨ b = s2.heap.objs.size + 3 ∨ b = s2.heap.objs.size ∨ b = s2.heap.objs.size + 1) := ⟨fun a o uu e uu => hk a o e, fun a na sa q => by
        rcases q with q | q | q | q | q | q
        · exact na q
        · rw [q, big 4] at sa; cases sa
        · rw [q, big 2] at sa; cases sa
        · rw [q, big 3] at sa; cases sa
        · have b0 := big 0
          rw [q] at sa
          have b0 : s2.heap.get? s2.heap.objs.size = none := b0
          rw [b0] at sa; cases sa
        · rw [q, big 1] at sa; cases sa⟩
      exact ⟨0, xs, ys, as, bs, .none, .none, mv.open_ l1 n1 (list_some hl1), mv.open_ l2 n2 (list_some hl2), hz, hTI, hTO, g1, g2, list_obj hl1 fun o q1 q2 => hk _ _ q1, list_obj hl2 fun o q1 q2 => hk _ _ q1, by rw [List.drop_zero]; exact TrL.mv mv _ _ t1, by rw [List.drop_zero]; exact TrL.mv mv _ _ t2, rfl⟩
  refine wz (key s0 (.refl _) I0) (fun v s1 k1 I1 zr => ?_)
  obtain ⟨z, TI, TO, i1, i2, l1, l2, ev, A, hf, hj⟩ := zr
  subst ev
  obtain ⟨i, xs, ys, as', bs', a, b, n1, n2, hz, _⟩ := id hj
  refine wpAny_pyIter_zip hz ⟨k1, I1, z, _, _, rfl, fun a h => ⟨ext_none k0 (hf a h).1, (hf a h).2.2⟩, iter_zip A (hf z (.inl rfl)).2.1 (hf TI (.inr (.inl rfl))).2.1 (hf TO (.inr (.inr (.inl rfl)))).2.1 (hf i1 (.inr (.inr (.inr (.inl rfl))))).2.1 (hf i2 (.inr (.inr (.inr (.inr rfl))))).2.1, hj⟩
end
end Mine
end
section
open PySem PySem.W PySem.Calls PyProof.Rows
set_option linter.unusedVariables false
set_option maxRecDepth 100000
namespace Mine
set_option genSizeOf false
set_option genInjectivity false
set_option tactic.hygienic false
noncomputable def lastI (l : List Int) : Int := l.getLast?.getD 0
noncomputable def bookStep (st : Book × List Int) (lt : Let × List Int) : Book × List Int :=
  if lt.2.length = st.2.length then
    ((st.1.1 + 1, st.1.2.1 + (lastI st.2 + lt.1.2 - lastI lt.2), st.1.2.2.1 + (lastI st.2 + lt.1.2 - lt.1.1), st.1.2.2.2.1 + lt.1.1,
      setD st.1.2.2.2.2 (lastI st.2 + lt.1.2 - lastI lt.2) ((lookD st.1.2.2.2.2 (lastI st.2 + lt.1.2 - lastI lt.2)).getD 0 + 1)), lt.2)
  else (st.1, lt.2)
noncomputable def bookF (letters : List Let) (tables : List (List Int)) (start : Int) : Book := ((letters.zip tables).foldl bookStep ((0, 0, 0, 0, []), [start])).1
theorem ok_book : R_book.Ok ["letters", "tables", "start"] where
  mem := inF 21 rfl
  cl := rfl
  bind := fun kV doc pm an ct vs h => by
    obtain ⟨a, b, d, rfl⟩ := len3 h
    rfl
  kinds := by rfl
  nodup := by decide
  cnodup := by decide
  celled := by rfl
  co := rfl
  gen := rfl
  fun_ := rfl
theorem zipD_eq (ls : List Let) (ts : List (List Int)) : zipD (ls.map prD) (ts.map fun t => .lst (t.map D.int)) = (ls.zip ts).map fun p => .tup [prD p.1, .lst (p.2.map D.int)] := by
  induction ls generalizing ts with
  | nil => rfl
  | cons a ls ih =>
    cases ts with
    | nil => rfl
    | cons t ts =>
      show D.tup [prD a, .lst (t.map D.int)] :: zipD (ls.map prD) (ts.map fun t => .lst (t.map D.int)) = _
      rw [ih]; rfl
theorem last_get {l : List Int} (h : l ≠ []) : (l.map D.int).getLast? = some (.int (lastI l)) := by
  rw [List.getLast?_map, lastI, List.getLast?_eq_some_getLast h]; rfl
theorem book_fn {c : Cx} (O : c.Ok) (letters : List Let) (tables : List (List Int)) (start : Int) (hl : letters.length ≤ 100) (ht : ∀ t ∈ tables, t ≠ [] ∧ t.length ≤ 1000) : Fn c 10 (.ref 251) [.lst (letters.map prD), .lst (tables.map fun t => .lst (t.map D.int)), .int start] (bookD (bookF letters tables start)) := by
  refine Fn.intro (f := R_book) ok_book rfl (by decide) fun X₀ own s₀ s L cells hc B => ?_
  refine st_assign B ev_int fun s1 B1 => ?_
  refine st_assign B1 ev_int fun s2 B2 => ?_
  refine st_assign B2 ev_int fun s3 B3 => ?_
  refine st_assign B3 ev_int fun s4 B4 => ?_
  refine st_dict B4 fun cA s5 nr nx B5 => ?_
  refine st_assign (d := .lst ([start].map D.int)) B5 ((evn_lst (.cons (ev_loc B5 rfl) .nil)).tr B5.ex) fun s6 B6 => ?_
  refine st_forT (ds := (letters.zip tables).map fun p => .tup [prD p.1, .lst (p.2.map D.int)]) (fun uu => fun a => own a ∨ a = cA)
    (fun (x : List (Let × List Int) × (Book × List Int)) => [("last", .tr (.lst (x.2.2.map D.int))), ("callers", .dc cA x.2.1.2.2.2.2), ("hours", .tr (.int x.2.1.2.2.2.1)), ("overs", .tr (.int x.2.1.2.2.1)), ("signs", .tr (.int x.2.1.2.1)), ("count", .tr (.int x.2.1.1))])
    (fun rest (x : List (Let × List Int) × (Book × List Int)) => rest = x.1.map (fun p => .tup [prD p.1, .lst (p.2.map D.int)]) ∧ (x.1.foldl bookStep x.2).1 = bookF letters tables start ∧ x.2.2 ≠ [] ∧ x.2.2.length ≤ 1000 ∧ x.2.1.2.2.2.2.length + x.1.length ≤ 100 ∧ ∀ p ∈ x.1, p.2 ≠ [] ∧ p.2.length ≤ 1000) (letters.zip tables, (0, 0, 0, 0, []), [start]) (fun d => False)
    B6 ?_ ⟨rfl, rfl, by simp, by simp, ?_, ?_⟩ rfl ?_ ?_ ?_ ?_
  · rw [← zipD_eq]
    exact ei_zip O (ev_loc B6 rfl) (ev_loc B6 rfl)
  · show 0 + (letters.zip tables).length ≤ 100
    rw [List.length_zip]; lia
  · intro p hp
    exact ht p.2 (List.of_mem_zip hp).2
  · exact (pk rfl (pk rfl (pk rfl (pk rfl (pk rfl (pk rfl pk0))))))
  · intro Q' d rest x X₁ hB s7 hQ hR zp B7 v tv
    obtain ⟨hx, hf, hn, hl, hd, hp⟩ := zp
    obtain ⟨l, ⟨⟨b1, b2, b3, b4, b5⟩, last⟩⟩ := x
    cases l with
    | nil => cases hx
    | cons p l =>
    injection hx with h1 h2
    subst h1
    obtain ⟨pn, pl⟩ := hp p (by simp)
    have hn : last ≠ [] := hn
    have hl : last.length ≤ 1000 := hl
    have hd : b5.length + (l.length + 1) ≤ 100 := hd
    have B7 : Bd c (R_book.env L cells) X₁ (fun a => own a ∨ a = cA) (fun a => own a ∨ a = cA) hB s₀.os s7 [("last", .tr (.lst (last.map D.int))), ("callers", .dc cA b5), ("hours", .tr (.int b4)), ("overs", .tr (.int b3)), ("signs", .tr (.int b2)), ("count", .tr (.int b1))] := B7
    refine use_tuple ["letter", "table"] B7 tv fun s8 B8 => ?_
    have l1 : (p.2.map D.int).length = p.2.length := by simp
    have l2 : (last.map D.int).length = last.length := by simp
    have bl : (bookStep ((b1, b2, b3, b4, b5), last) p).1.2.2.2.2.length ≤ b5.length + 1 := by
      unfold bookStep
      split
      · exact setD_len _ _ _
      · exact Nat.le_succ _
    have fin : ∀ s9, Bd c (R_book.env L cells) X₁ (fun a => own a ∨ a = cA) (fun a => own a ∨ a = cA) hB s₀.os s9 [("last", .tr (.lst (p.2.map D.int))), ("callers", .dc cA (bookStep ((b1, b2, b3, b4, b5), last) p).1.2.2.2.2), ("hours", .tr (.int (bookStep ((b1, b2, b3, b4, b5), last) p).1.2.2.2.1)), ("overs", .tr (.int (bookStep ((b1, b2, b3, b4, b5), last) p).1.2.2.1)), ("signs", .tr (.int (bookStep ((b1, b2, b3, b4, b5), last) p).1.2.1)), ("count", .tr (.int (bookStep ((b1, b2, b3, b4, b5), last) p).1.1))] → Q' .next s9 := fun s9 B9 =>
      hQ (l, ((bookStep ((b1, b2, b3, b4, b5), last) p).1, p.2)) s9 ⟨h2, by rw [← hf]; show _ = (l.foldl bookStep (bookStep ((b1, b2, b3, b4, b5), last) p)).1; congr 2; unfold bookStep; split <;> rfl, pn, pl, by show (bookStep ((b1, b2, b3, b4, b5), last) p).1.2.2.2.2.length + l.length ≤ 100; lia, fun q hq => hp q (List.mem_cons_of_mem _ hq)⟩ B9
    refine st_if (b := (((p.2.map D.int).length : Nat) : Int) == (((last.map D.int).length : Nat) : Int)) B8.inv (ev_test (ev_len O (ev_loc B8 rfl) (by rw [List.length_map]; exact pl)) (ev_len O (ev_loc B8 rfl) (by rw [List.length_map]; exact hl)) cmp_eq) (fun hb s9 E9 I9 => ?_) (fun hb s9 E9 I9 => ?_)
    · have B9 := B8.ext E9 I9
      rw [l1, l2, beq_iff_eq] at hb
      have hb : p.2.length = last.length := by lia
      have st : bookStep ((b1, b2, b3, b4, b5), last) p = ((b1 + 1, b2 + (lastI last + p.1.2 - lastI p.2), b3 + (lastI last + p.1.2 - p.1.1), b4 + p.1.1, setD b5 (lastI last + p.1.2 - lastI p.2) ((lookD b5 (lastI last + p.1.2 - lastI p.2)).getD 0 + 1)), p.2) := by
        unfold bookStep; rw [if_pos hb]
      refine st_assign (d := .int (lastI last + p.1.2 - lastI p.2)) B9 (ev_bin B9.ex (ev_bin B9.ex (ev_item_last (ev_loc B9 rfl) (ev_neg ev_int) (last_get hn) (by rw [List.length_map]; exact Nat.le_trans hl (by decide))) (ev_item_tup (j := 1) (ev_loc (d := prD p.1) B9 rfl) ev_int (by decide) (by decide) rfl rfl) bin_add) (ev_item_last (ev_loc B9 rfl) (ev_neg ev_int) (last_get pn) (by rw [List.length_map]; exact Nat.le_trans pl (by decide))) bin_sub) fun s10 B10 => ?_
      refine st_aug B10 rfl ev_int fun s11 B11 => ?_
      refine st_aug B11 rfl (ev_loc B11 rfl) fun s12 B12 => ?_
      refine st_aug (j := lastI last + p.1.2 - p.1.1) B12 rfl (ev_bin B12.ex (ev_bin B12.ex (ev_item_last (ev_loc B12 rfl) (ev_neg ev_int) (last_get hn) (by rw [List.length_map]; exact Nat.le_trans hl (by decide))) (ev_item_tup (j := 1) (ev_loc (d := prD p.1) B12 rfl) ev_int (by decide) (by decide) rfl rfl) bin_add) (ev_item_tup (j := 0) (ev_loc (d := prD p.1) B12 rfl) ev_int (by decide) (by decide) rfl rfl) bin_sub) fun s13 B13 => ?_
      refine st_aug (j := p.1.1) B13 rfl (ev_item_tup (j := 0) (ev_loc (d := prD p.1) B13 rfl) ev_int (by decide) (by decide) rfl rfl) fun s14 B14 => ?_
      refine st_dset (k := lastI last + p.1.2 - lastI p.2) (v := (lookD b5 (lastI last + p.1.2 - lastI p.2)).getD 0 + 1) B14 rfl (ev_bin B14.ex (ev_dget B14 rfl (ev_loc B14 rfl) ev_int) ev_int bin_add) (ev_loc B14 rfl) (by lia) rfl fun s15 B15 => st_nil ?_
      refine st_assign (d := .lst (p.2.map D.int)) B15 (ev_loc B15 rfl) fun s16 B16 => st_nil (fin s16 (B16.pick ?_))
      rw [st]
      refine al ?_ (al ?_ (al ?_ (al ?_ (al ?_ (al ?_ al0))))) <;> rfl
    · have B9 := B8.ext E9 I9
      rw [l1, l2, beq_eq_false_iff_ne] at hb
      have hb : ¬ p.2.length = last.length := by lia
      have st : bookStep ((b1, b2, b3, b4, b5), last) p = ((b1, b2, b3, b4, b5), p.2) := by unfold bookStep; rw [if_neg hb]
      refine st_nil (st_assign (d := .lst (p.2.map D.int)) B9 (ev_loc B9 rfl) fun s16 B16 => st_nil (fin s16 (B16.pick ?_)))
      rw [st]
      refine al ?_ (al ?_ (al ?_ (al ?_ (al ?_ (al ?_ al0))))) <;> rfl
  · intro x s7 zp B7
    obtain ⟨hx, hf, hn, hl, hd, hp⟩ := zp
    obtain ⟨l, ⟨b, last⟩⟩ := x
    cases l with
    | cons _ _ => cases hx
    | nil =>
      have hf : b = bookF letters tables start := hf
      refine st_ret B7 (ev_tup (fun a h => B7.ex a (.inl h)) (.cons (EvD.less (ev_loc B7 rfl) fun a h => .inl h) (.cons (EvD.less (ev_loc B7 rfl) fun a h => .inl h) (.cons (EvD.less (ev_loc B7 rfl) fun a h => .inl h) (.cons (EvD.less (ev_loc B7 rfl) fun a h => .inl h) (.cons (ev_freezeD B7 rfl) .nil)))))) fun v s' h => ?_
      rw [← hf]; exact h
  · intro d v s' hd
    exact hd.elim
end Mine
end
section
open PySem PySem.W PySem.Calls PyProof.Rows
set_option linter.unusedVariables false
set_option maxRecDepth 100000
namespace Mine
set_option genSizeOf false
set_option genInjectivity false
set_option tactic.hygienic false
noncomputable abbrev Card := Int × Int × Int
noncomputable def ltF (es : List (Int × Int)) (x : Card) (r : Card) : Bool := decide (cmpF es r x < 0)
noncomputable def insF (es : List (Int × Int)) (row : List Card) (x : Card) : List Card := row.takeWhile (ltF es x) ++ x :: row.dropWhile (ltF es x)
noncomputable def orderF (es : List (Int × Int)) (cs : List Card) : List Card := cs.foldl (insF es) []
theorem insF_length (es : List (Int × Int)) (row : List Card) (x : Card) : (insF es row x).length = row.length + 1 := by
  have := congrArg List.length (List.takeWhile_append_dropWhile (p := ltF es x) (l := row))
  simp only [List.length_append] at this
  simp only [insF, List.length_append, List.length_cons]; omega
theorem tw_place {α : Type} (p : α → Bool) : ∀ (l : List α) (k : Nat), (∀ j, j < k → ∃ a, l[j]? = some a ∧ p a = true) → (l.length = k ∨ ∃ a, l[k]? = some a ∧ p a = false) → l.takeWhile p = l.take k ∧ l.dropWhile p = l.drop k
  | [], k, u1, h => by
    rcases h with h | ⟨a, h, _⟩
    · have : k = 0 := h.symm
      subst this; exact ⟨rfl, rfl⟩
    · simp at h
  | a :: l, 0, u1, h => by
    rcases h with h | ⟨b, h, hb⟩
    · simp at h
    · simp at h; subst h
      simp [List.takeWhile, List.dropWhile, hb]
  | a :: l, k + 1, h1, h => by
    obtain ⟨b, e, hb⟩ := h1 0 (by omega)
    simp at e; subst e
    obtain ⟨p1, p2⟩ := tw_place p l k (fun j hj => by
      obtain ⟨b, e, hb⟩ := h1 (j + 1) (by omega)
      exact ⟨b, by simpa using e, hb⟩) (by simpa using h)
    simp [List.takeWhile, List.dropWhile, hb, p1, p2]

theorem ok_order : R_order.Ok ["comparer", "cards"] where
  mem := inF 17 rfl
  cl := rfl
  bind := fun kV doc pm an ct vs h => by
    obtain ⟨a, b, rfl⟩ := len2 h
    rfl
  kinds := by rfl
  nodup := by decide
  cnodup := by decide
  celled := by rfl
  co := rfl
  gen := rfl
  fun_ := rfl

theorem order_fn {c : Cx} (O : c.Ok) (es : List (Int × Int)) (hes : ∀ p ∈ es, p.1 = 0 ∨ p.1 = 1 ∨ p.1 = 2) (cs : List Card) (hcs : cs.length ≤ 100) : Fn c 11 (.ref 229) [.cmp es, .lst (cs.map cardD)] (.lst ((orderF es cs).map cardD)) := by
  refine Fn.intro (f := R_order) ok_order rfl (by decide) fun X₀ own s₀ s L cells hc B => ?_
  refine st_live B (evn_list evl_nil rfl (by decide)) fun row s1 nr nx B1 => ?_
  refine st_for (ds := cs.map cardD) (fun uu => fun a => own a ∨ a = row) (fun (x : List Card) => [("row", .ls row (x.map cardD)), ("comparer", .tr (.cmp es))])
    (fun rest (x : List Card) => ∃ r, rest = r.map cardD ∧ orderF es cs = r.foldl (insF es) x ∧ x.length + r.length ≤ 100) [] (fun d => False)
    B1 (ei_list (ev_loc B1 rfl)) ⟨cs, rfl, rfl, by simpa using hcs⟩ rfl ?_ ?_ ?_ ?_
  · exact (pk rfl (pk rfl pk0))
  · intro Q' d rest x X₁ hB s2 hQ hR zp B2 v tv
    obtain ⟨r, hr, ho, hn⟩ := zp
    cases r with
    | nil => cases hr
    | cons card r =>
    injection hr with h1 h2
    subst h1
    refine use_name B2 tv fun s3 B3 => ?_
    refine st_assign B3 ev_int fun s4 B4 => ?_
    refine st_while (fun uu a => own a ∨ a = row) (fun (p : Nat) => [("place", .tr (.int p)), ("row", .ls row (x.map cardD)), ("comparer", .tr (.cmp es)), ("card", .tr (cardD card))])
      (fun p => p ≤ x.length ∧ ∀ j, j < p → ∃ a, x[j]? = some a ∧ ltF es card a = true) (fun p => x.length = p ∨ ∃ a, x[p]? = some a ∧ ltF es card a = false) (fun p => x.length - p) 0 B4 ⟨Nat.zero_le _, fun j h => absurd h (Nat.not_lt_zero _)⟩ rfl ?_ ?_ ?_
    · exact (pk rfl (pk rfl (pk rfl (pk rfl pk0))))
    · intro p hB' s5 zp B5
      obtain ⟨hp1, hp2⟩ := zp
      have hlen : (x.map cardD).length = x.length := List.length_map ..
      by_cases hlt : p < x.length
      · have hx : x[p]? = some x[p] := List.getElem?_eq_getElem hlt
        refine ⟨decide ((p : Int) < ((x.map cardD).length : Int)) && decide (cmpF es x[p] card < 0), ev_and (ev_test (ev_loc B5 rfl) (ev_len_live O B5 rfl (by rw [hlen]; omega)) cmp_lt)
          (fun uu => ev_test (ev_compare O B5.ex (ev_loc B5 rfl) (compare_fn O es x[p] card hes) rfl (ev_item_live (i := (p : Int)) (d := cardD x[p]) B5 rfl (ev_loc B5 rfl) (by omega) (by omega) (by simp [hx])) (ev_loc B5 rfl) (by decide)) ev_int cmp_lt), fun hb => ?_, fun hb Q₂ s6 hQ2 B6 => ?_⟩
        · rw [hlen, decide_eq_true (by omega), Bool.true_and] at hb
          exact .inr ⟨_, hx, hb⟩
        · rw [hlen, decide_eq_true (by omega), Bool.true_and] at hb
          refine st_aug B6 rfl ev_int fun s7 B7 => st_nil ?_
          refine hQ2 (p + 1) _ ⟨hlt, fun j hj => ?_⟩ (by omega) (B7.pick ?_)
          · rcases Nat.lt_succ_iff_lt_or_eq.mp hj with h | rfl
            · exact hp2 j h
            · exact ⟨_, hx, hb⟩
          · exact (pk rfl (pk rfl (pk rfl (pk rfl pk0))))
      · refine ⟨decide ((p : Int) < ((x.map cardD).length : Int)) && false, ev_and (ev_test (ev_loc B5 rfl) (ev_len_live O B5 rfl (by rw [hlen]; omega)) cmp_lt)
          (fun hb => absurd (of_decide_eq_true hb) (by rw [hlen]; omega)), fun uu => .inl (by omega), fun hb => ?_⟩
        rw [Bool.and_false] at hb; cases hb
    · intro p s5 hF zp B5
      obtain ⟨hp1, hp2⟩ := zp
      have hlen : (x.map cardD).length = x.length := List.length_map ..
      refine st_insert (i := p) B5 rfl (ev_loc B5 rfl) (ev_loc B5 rfl) (by rw [hlen]; omega) (by rw [hlen]; exact hp1) ?_ fun s6 B6 => ?_
      · exact hap_of rfl
      · refine st_nil (hQ (insF es x card) _ ⟨r, h2, ho, ?_⟩ (B6.pick ?_))
        · rw [insF_length]; simp only [List.length_cons] at hn; omega
        · obtain ⟨q1, q2⟩ := tw_place (ltF es card) x p hp2 hF
          have e : (insF es x card).map cardD = (x.map cardD).take p ++ cardD card :: (x.map cardD).drop p := by
            rw [insF, q1, q2, List.map_append, List.map_take, List.map_cons, List.map_drop]
          refine al ?_ (al ?_ al0)
          · rw [e]; rfl
          · rfl
  · intro x s2 zp B2
    obtain ⟨r, hr, ho, _⟩ := zp
    cases r with
    | cons _ _ => cases hr
    | nil => exact st_ret B2 (ev_freeze B2 rfl) fun uu uu z => by rw [ho]; exact z
  · intro d v s' hd
    exact hd.elim
end Mine
end
section
open PySem PySem.W PySem.Calls PyProof.Rows
set_option linter.unusedVariables false
set_option maxRecDepth 100000
namespace Mine
set_option genSizeOf false
set_option genInjectivity false
set_option tactic.hygienic false
section
variable {c : Cx} {n : Nat} {env : Env} {X X₀ own Z : Addr → Prop} {hA : Heap} {os : OsState} {s s' s₀ : Shared} {σ σ' : List (Str × LV)} {d : D} {ds : List D} {i0 : Int} {pos : Pos} {rest body : List Stmt} {Q : Flow → Shared → Prop}
theorem Bd.less0 {S : List Addr} (B : Bd c env X₀ own Z hA os s σ) (hL : env.locals ∉ S) (hC : ∀ x a, (x, a) ∈ env.cells → a ∉ S) : Bd c env X₀ (fun a => own a ∧ a ∉ S) Z hA os s [] :=
  { B with
    mine := fun a h => B.mine a h.1
    ex := fun a h => B.ex a (h.imp id fun h => h.1)
    far := fun a h => B.far a h.1
    dis := fun a h => B.dis a h.1
    ownL := ⟨B.ownL, hL⟩
    ownC := fun x a h => ⟨B.ownC x a h, hC x a h⟩
    dcs := fun x lv a q uu => nomatch q
    loc := let ⟨vm, F, g⟩ := B.loc; ⟨vm, F, fun x lv q => nomatch q⟩ }
theorem Bd.lessA {x : Str} {a dx : Addr} (B : Bd c env X₀ own Z hA os s σ) (hl : σ.lookup x = some (.ac a dx ds i0)) : Bd c env X₀ (fun b => own b ∧ b ∉ [a, dx]) Z hA os s [] := by
  have h1 := B.dcs x _ a hl List.mem_cons_self
  have h2 := B.dcs x _ dx hl (List.mem_cons_of_mem _ List.mem_cons_self)
  refine B.less0 (fun q => ?_) fun y b hb q => ?_
  · simp only [List.mem_cons, List.not_mem_nil, or_false] at q
    rcases q with q | q
    · exact h1.1 q.symm
    · exact h2.1 q.symm
  · simp only [List.mem_cons, List.not_mem_nil, or_false] at q
    rcases q with q | q
    · exact h1.2 y b hb q.symm
    · exact h2.2 y b hb q.symm
theorem EvN.ints {t : Sem Value} {ns : List Int} (h : EvN c n X s t (ns.map D.int)) (hX : ∀ a, X₀ a → (s.heap.get? a).isSome = true) : EvD c n X₀ s t (.lst (ns.map D.int)) := h.imp fun s' v uu uu zp => by
  obtain ⟨a, vs, e, fr, _, hl, t⟩ := zp
  exact ⟨a, vs, e, (fun q => by have := hX a q; rw [fr] at this; cases this), hl, ints_tr (ints_are t)⟩
theorem ev_lst_tr {x : Str} {a : Addr} {p : Pos} (B : Bd c env X₀ own Z hA os s σ) (hl : σ.lookup x = some (.ls a ds)) (hk : autoParam (env.scope.kind = .function) tacR) (hx : autoParam (isLC (env.kindOf x) = true) tacR) (hd : autoParam ((x == ("__debug__" : Str)) = false) tacD) :
    EvD c n (fun b => X₀ b ∨ (own b ∧ b ∉ [a])) s (eval (.Name x p) env) (.lst ds) := fun s' e I =>
  wz (ev_live (n := n) B hl hk hx hd s' e I) (fun v s1 e1 I1 t1 => by
    subst t1
    obtain ⟨oa, us, hr, tl⟩ := (B.ext (e.trans e1) I1).live hl
    refine ⟨e1, I1, a, us, rfl, ?_, hr, TrL.mv (.less fun b q => q.imp id fun q => q.1) _ _ tl⟩
    rintro (q | q)
    · exact B.dis a oa q
    · exact q.2 (by simp))
theorem EvD.card_up {x : Str} {a : Addr} {t : Sem Value} {l : Int × Int × Int} (h : EvD c n (fun b => X₀ b ∨ (own b ∧ b ∉ [a])) s t (cardD l)) (B : Bd c env X₀ own Z hA os s σ) (hl : σ.lookup x = some (.ls a ds)) : EvD c n (fun b => X₀ b ∨ own b) s t (cardD l) :=
  h.imp fun s' v E I zp => by
    obtain ⟨T, us, ev, nT, hT, tT⟩ := zp
    obtain ⟨_, ws, ⟨k, hw⟩, _⟩ := (B.ext E I).live hl
    refine ⟨T, us, ev, ?_, hT, ?_⟩
    · have ne : T ≠ a := fun q => by
        obtain ⟨m, hm⟩ := hT
        rw [q, hw] at hm
        have := congrArg Obj.cls (Option.some.inj hm)
        injection this with this
        exact absurd this (by decide)
      rintro (q | q)
      · exact nT (.inl q)
      · exact nT (.inr ⟨q, by simpa using ne⟩)
    · obtain ⟨v1, r1, e1, q1, v2, r2, e2, q2, v3, r3, e3, q3, e4⟩ := tT
      exact ⟨v1, r1, e1, q1, v2, r2, e2, q2, v3, r3, e3, q3, e4⟩
theorem pcs_filter (ps : List Pc) : (ps.map pcD).filterMap (fun d => match d with | .tup [.str a, .str b] => some (D.int ((a.length : Int) + (b.length : Int))) | _ => none) = (ps.map pcLen).map D.int := by
  induction ps with
  | nil => rfl
  | cons p ps ih =>
    rw [List.map_cons, List.filterMap_cons]
    show D.int _ :: _ = _
    rw [ih]; rfl
end
theorem cards_eqv (a b : Card) : PyData.eqv (cardD a).py (cardD b).py = decide (a = b) := by
  show (a.1 == b.1 && (a.2.1 == b.2.1 && (a.2.2 == b.2.2 && true))) = decide (a = b)
  rw [Bool.eq_iff_iff]
  simp only [Bool.and_true, Bool.and_eq_true, beq_iff_eq, decide_eq_true_eq]
  constructor
  · rintro ⟨h1, h2, h3⟩; exact Prod.ext h1 (Prod.ext h2 h3)
  · rintro rfl; exact ⟨rfl, rfl, rfl⟩
noncomputable def pieceOf (T : List Str) (c : Card) : Pc := (Txt.slice (T.getD c.2.2.toNat "") none (some 2), Txt.slice (T.getD c.2.2.toNat "") (some 2) none)
noncomputable def lateOf (es : List (Int × Int)) (ly : List Card) : Card := (orderF es ly).headD (0, 0, 0)
noncomputable def placeOf (es : List (Int × Int)) (ly : List Card) : Nat := ly.idxOf (lateOf es ly)
noncomputable abbrev Seen := Int × Int × List Int
noncomputable def seenD (x : Seen) : D := .tup [.int x.1, .int x.2.1, .lst (x.2.2.map D.int)]
noncomputable abbrev RunSt := List Card × Book × List Seen
noncomputable def overOf (T : List Str) (start : Int) (ly : List Card) (card : Card) : Int := start + pcSum (ly.map (pieceOf T)) - card.1
noncomputable def lyStep (T : List Str) (es : List (Int × Int)) (start : Int) (ly : List Card) (card : Card) : List Card := if 0 < overOf T start ly card then ly.take (placeOf es ly) ++ ly.drop (placeOf es ly + 1) else ly
noncomputable def bkStep (T : List Str) (es : List (Int × Int)) (start : Int) (ly : List Card) (card : Card) (b : Book) : Book := if 0 < overOf T start ly card then statsF b (1, (lateOf es ly).2.1, overOf T start ly card, card.1, [((lateOf es ly).2.1, 1)]) else b
noncomputable def seenOf (T : List Str) (start : Int) (ly : List Card) : Seen := ((ly.length : Int), start + pcSum (ly.map (pieceOf T)), sortI (ly.map fun c => pcLen (pieceOf T c)))
noncomputable def runStep (T : List Str) (es : List (Int × Int)) (start : Int) (st : RunSt) (card : Card) : RunSt :=
  (lyStep T es start (st.1 ++ [card]) card, bkStep T es start (st.1 ++ [card]) card st.2.1, st.2.2 ++ [seenOf T start (lyStep T es start (st.1 ++ [card]) card)])
noncomputable def runF (T : List Str) (es : List (Int × Int)) (start : Int) (row : List Card) : RunSt := row.foldl (runStep T es start) ([], (0, 0, 0, 0, []), [])
theorem insF_perm (es : List (Int × Int)) (row : List Card) (x : Card) : (insF es row x).Perm (x :: row) := by
  unfold insF
  refine List.perm_middle.trans (List.Perm.cons x ?_)
  rw [List.takeWhile_append_dropWhile]
theorem orderF_perm (es : List (Int × Int)) (cs : List Card) : (orderF es cs).Perm cs := by
  have key : ∀ (cs row : List Card), (cs.foldl (insF es) row).Perm (row ++ cs) := by
    intro cs
    induction cs with
    | nil => intro row; simp
    | cons a cs ih =>
      intro row
      rw [List.foldl_cons]
      refine (ih _).trans ?_
      have h1 : (insF es row a ++ cs).Perm ((a :: row) ++ cs) := (insF_perm es row a).append_right cs
      have h2 : ((a :: row) ++ cs).Perm (row ++ a :: cs) := List.perm_middle.symm
      exact h1.trans h2
  exact key cs []
theorem lateOf_mem (es : List (Int × Int)) {ly : List Card} (h : ly ≠ []) : lateOf es ly ∈ ly ∧ (orderF es ly)[0]? = some (lateOf es ly) := by
  have hp := orderF_perm es ly
  unfold lateOf
  cases e : orderF es ly with
  | nil =>
    rw [e] at hp
    exact absurd hp.symm.eq_nil h
  | cons a r =>
    rw [e] at hp
    exact ⟨hp.mem_iff.mp (List.mem_cons_self ..), rfl⟩
theorem placeOf_lt (es : List (Int × Int)) {ly : List Card} (h : ly ≠ []) : placeOf es ly < ly.length := List.idxOf_lt_length_of_mem (lateOf_mem es h).1
theorem placeOf_get (es : List (Int × Int)) {ly : List Card} (h : ly ≠ []) : ly[placeOf es ly]'(placeOf_lt es h) = lateOf es ly := List.getElem_idxOf (placeOf_lt es h)
theorem lyStep_len (T : List Str) (es : List (Int × Int)) (start : Int) (ly : List Card) (card : Card) : (lyStep T es start ly card).length ≤ ly.length := by
  unfold lyStep
  split
  · simp; omega
  · exact Nat.le_refl _
theorem foldl_putD_len : ∀ (t acc : List (Int × Int)), (t.foldl putD acc).length ≤ acc.length + t.length
  | [], acc => Nat.le_refl _
  | p :: t, acc => by
    rw [List.foldl_cons]
    have h1 := foldl_putD_len t (putD acc p)
    have h2 : (putD acc p).length ≤ acc.length + 1 := setD_len acc p.1 p.2
    simp only [List.length_cons]; omega
theorem bkStep_len (T : List Str) (es : List (Int × Int)) (start : Int) (ly : List Card) (card : Card) (b : Book) : (bkStep T es start ly card b).2.2.2.2.length ≤ b.2.2.2.2.length + 1 := by
  unfold bkStep
  split
  · show (callersF b.2.2.2.2 [((lateOf es ly).2.1, 1)]).length ≤ _
    unfold callersF
    rw [List.foldl_cons, List.foldl_nil]
    have h1 := foldl_putD_len b.2.2.2.2 []
    have h2 := addD_len (b.2.2.2.2.foldl putD []) ((lateOf es ly).2.1, 1)
    simp only [List.length_nil] at h1; omega
  · exact Nat.le_succ _
end Mine
end
section
open PySem PySem.W PySem.Calls PyProof.Rows
set_option linter.unusedVariables false
set_option maxRecDepth 100000
namespace Mine
set_option genSizeOf false
set_option genInjectivity false
set_option tactic.hygienic false
section
variable {c : Cx} {n : Nat} {env : Env} {X : Addr → Prop} {s : Shared} {pos : Pos}
theorem ev_ssliceT {value : Expr} {lower upper : Option Expr} {p : Pos} {x : Str} {i j : Option Int} (h : EvD c n X s (eval value env) (.str x)) (h1 : EvP c n s lower env i) (h2 : EvP c n s upper env j) (hsz : x.length ≤ 100000)
    (hs : autoParam (∀ (t : Tok) (a : Addr), subscripted (.Slice lower upper none p) false (.str x t) (.ref a) = operate [.ref a, .str x t] (getItem (.str x t) (.ref a))) tacW) : EvD c n X s (eval (.Subscript value (.Slice lower upper none p) pos) env) (.str (Txt.slice x i j)) := fun s' e I => by
  refine Subscript_ (wz (h s' e I) (fun v s1 e1 I1 zq => wpAny_Slice (wz (h1 s1 (e.trans e1) I1) (fun vl s2 e2 I2 zq2 => wz (h2 s2 ((e.trans e1).trans e2) I2) (fun vu s3 e3 I3 zr => ?_)))))
  obtain ⟨tu, r3⟩ := zr
  obtain ⟨tl, r2⟩ := zq2
  obtain ⟨t, r⟩ := zq
  have E : Ext s' { s3 with heap := s3.heap.push { cls := .type "slice", data := .fields #[vl, vu, .none] } } := ((e1.trans e2).trans e3).trans (ext_push _ _)
  have I4 : Inv c { s3 with heap := s3.heap.push { cls := .type "slice", data := .fields #[vl, vu, .none] } } := I3.keep (Keep.push _ _) I3.bare
  have key := post_val_or_str (s := { s3 with heap := s3.heap.push { cls := .type "slice", data := .fields #[vl, vu, .none] } }) (t := t) (Q := fun v s'' => Ez c s' s'' (Tr s''.heap X (.str (Txt.slice x i j)) v))
    (c := ((1 : Int) == 1 && (Builtin.Str.strSliceIndices i j 1 x.length).length == x.length) = true) (y := x) (z := ⟨((Builtin.Str.strSliceIndices i j 1 x.length).filterMap (x.cps[·]?)).toArray⟩)
    ⟨Nat.le_trans (Txt.slice_le x i j) (by show _ ≤ 2 ^ 24; omega), fun t' k => ⟨E.trans (.upd _ _), I4.toks _, t', rfl⟩⟩
  rw [evalPart_none]
  subst r r2 r3
  refine wpAny_pure (tail_any (typeIs_str _ x t) F.slot_str_getitem.lookup (wpAny_getItem_str_slice (l := i.map fun i => (i, tl)) (u := j.map fun j => (j, tu)) (st := none) ⟨_, Heap.get?_push_size _ rfl, rfl, rfl⟩ rfl ?_) (hs t _))
  cases i <;> cases j <;> exact key
theorem ev_lenS {p : Pos} {a : Expr} {x : Str} (O : c.Ok) (h : EvD c n X s (eval a env) (.str x)) (hsz : x.length ≤ 100000) (hns : autoParam (noStar [a] = true) tacR) (hk : autoParam (env.scope.kind = .function) tacR) (hx : autoParam (env.kindOf "len" = some .globalImplicit) tacR) (hgl : autoParam (env.globals = mainGlobals) tacR) (hbl : autoParam (env.builtins = builtinsNs) tacR) :
    EvD c n X s (eval (.Call (.Name "len" p) [a] [] pos) env) (.int x.length) := by
  refine ev_bcall (blt_len O hk hx hgl hbl) (starEach_plain hns) EvEs.any (EvEs.evl (.cons h .nil)) fun vs s1 e I1 zp => ?_
  obtain ⟨v, r, ev, ⟨t, et⟩, er⟩ := zp
  have er : r = [] := er
  subst er ev et
  intro s2 e2 I2
  have p63 : (2 : Int) ^ 63 = 9223372036854775808 := by decide
  exact PySem.P.len_str (by omega) ⟨(Ext.toks _ _), I2.toks _, _, rfl⟩
end
theorem hap_list {σ : List (Str × LV)} {x : Str} {S : List Addr} (h : ∀ p ∈ σ, p.1 = x ∨ ∀ b ∈ p.2.addrs, b ∉ S) : ∀ y l b, σ.lookup y = some l → y ≠ x → b ∈ l.addrs → b ∉ S := fun y l b q ne hb => (h (y, l) (mem_of_lookup q)).elim (fun e => absurd e ne) fun g => g b hb
theorem good_ls {a : Addr} {ds : List D} {S : List Addr} (h : a ∉ S) : ∀ b ∈ (LV.ls a ds).addrs, b ∉ S := fun b hb => by
  have hb : b = a := mem1 hb
  exact hb ▸ h
end Mine
end
section
open PySem PySem.W PySem.Calls PyProof.Rows
set_option linter.unusedVariables false
set_option maxRecDepth 100000
namespace Mine
set_option genSizeOf false
set_option genInjectivity false
set_option tactic.hygienic false
noncomputable def kRun (lt : Nat → Nat → Bool) : KasT (Array Nat) → Array Nat
  | .ret a => a
  | .ask i j k => kRun lt (k (lt i j))
noncomputable def kOk (lt : Nat → Nat → Bool) : KasT (Array Nat) → Bool
  | .ret _ => true
  | .ask i j k => decide (i < 5) && (decide (j < 5) && kOk lt (k (lt i j)))
theorem kWp {cmp : Nat → Nat → (Bool → Shared → Prop) → Shared → Prop} {lt : Nat → Nat → Bool} {G : Array Nat → Shared → Prop} {s : Shared} (h : ∀ i j (C : Bool → Shared → Prop), i < 5 → j < 5 → C (lt i j) s → cmp i j C s) :
    ∀ (t : KasT (Array Nat)), kOk lt t = true → G (kRun lt t) s → t.kasWp cmp G s
  | .ret a, u1, g => g
  | .ask i j k, ho, g => by
    simp only [kOk, Bool.and_eq_true, decide_eq_true_eq] at ho
    exact h i j _ ho.1 ho.2.1 (kWp h (k (lt i j)) ho.2.2 g)
noncomputable def insI (lt : Nat → Nat → Bool) (row : List Nat) (x : Nat) : List Nat := row.takeWhile (fun r => lt r x) ++ x :: row.dropWhile (fun r => lt r x)
noncomputable def ordI (lt : Nat → Nat → Bool) (cs : List Nat) : List Nat := cs.foldl (insI lt) []
noncomputable def rk (r : List Nat) (i j : Nat) : Bool := decide (r.getD i 0 < r.getD j 0)
noncomputable def goodR (r : List Nat) : Bool := kOk (rk r) (kas_sort 5) && ((kRun (rk r) (kas_sort 5)).toList == ordI (rk r) [0, 1, 2, 3, 4])
noncomputable def allR : Bool := (List.range 5).all fun a => (List.range 5).all fun b => a == b || ((List.range 5).all fun c => c == a || c == b || ((List.range 5).all fun d => d == a || d == b || d == c || ((List.range 5).all fun e => e == a || e == b || e == c || e == d || goodR [a, b, c, d, e])))
set_option maxHeartbeats 4000000 in
theorem allR_ok : allR = true := by decide +kernel
end Mine
end
section
open PySem PySem.W PySem.Calls PyProof.Rows
set_option linter.unusedVariables false
set_option maxRecDepth 100000
namespace Mine
set_option genSizeOf false
set_option genInjectivity false
set_option tactic.hygienic false
noncomputable def lexlt (K : Nat → Int × Int) (i j : Nat) : Bool := decide ((K i).1 < (K j).1) || (decide ((K i).1 = (K j).1) && decide ((K i).2 < (K j).2))
theorem lexlt_iff {K : Nat → Int × Int} {i j : Nat} : lexlt K i j = true ↔ (K i).1 < (K j).1 ∨ ((K i).1 = (K j).1 ∧ (K i).2 < (K j).2) := by simp [lexlt]
noncomputable def rankK (K : Nat → Int × Int) (i : Nat) : Nat := (List.range 5).countP fun j => lexlt K j i
noncomputable def ranks (K : Nat → Int × Int) : List Nat := (List.range 5).map (rankK K)
theorem countP_lt {p q : Nat → Bool} : ∀ {l : List Nat} {x : Nat}, (∀ y ∈ l, p y = true → q y = true) → x ∈ l → q x = true → p x = false → l.countP p < l.countP q
  | y :: l, x, h, hx, hq, hp => by
    rw [List.countP_cons, List.countP_cons]
    have mono : l.countP p ≤ l.countP q := List.countP_mono_left fun z hz => h z (List.mem_cons_of_mem _ hz)
    by_cases e : x = y
    · subst e
      rw [hq, hp]; simp; omega
    · rcases List.mem_cons.mp hx with rfl | hx
      · exact absurd rfl e
      · have ih := countP_lt (fun z hz => h z (List.mem_cons_of_mem _ hz)) hx hq hp
        have hy := h y (List.mem_cons_self ..)
        cases hpy : p y with
        | false => simp; split <;> omega
        | true => rw [hy hpy]; simp; omega
theorem rank_lt {K : Nat → Int × Int} {i j : Nat} (hi : i < 5) (h : lexlt K i j = true) : rankK K i < rankK K j := by
  refine countP_lt (fun y uu hy => ?_) (List.mem_range.mpr hi) h ?_
  · rw [lexlt_iff] at *; omega
  · have : ¬ lexlt K i i = true := by rw [lexlt_iff]; omega
    simpa using this
theorem rank_small (K : Nat → Int × Int) {i : Nat} (hi : i < 5) : rankK K i < 5 := by
  have : (List.range 5).countP (fun j => lexlt K j i) < (List.range 5).countP (fun uu => true) := countP_lt (fun uu uu uu => rfl) (List.mem_range.mpr hi) rfl (by
    have : ¬ lexlt K i i = true := by rw [lexlt_iff]; omega
    simpa using this)
  simpa [rankK] using this
theorem lex_total {K : Nat → Int × Int} {i j : Nat} (h : (K i).2 ≠ (K j).2) : lexlt K i j = true ∨ lexlt K j i = true := by
  rw [lexlt_iff, lexlt_iff]; omega
theorem ranks_get (K : Nat → Int × Int) {i : Nat} (hi : i < 5) : (ranks K).getD i 0 = rankK K i := by
  unfold ranks
  rw [List.getD_eq_getElem?_getD, List.getElem?_map, List.getElem?_range hi]; rfl
theorem rk_lex {K : Nat → Int × Int} (hK : ∀ i j, i < 5 → j < 5 → i ≠ j → (K i).2 ≠ (K j).2) {i j : Nat} (hi : i < 5) (hj : j < 5) : rk (ranks K) i j = lexlt K i j := by
  unfold rk
  rw [ranks_get K hi, ranks_get K hj]
  by_cases e : i = j
  · subst e
    have : ¬ lexlt K i i = true := by rw [lexlt_iff]; omega
    rw [Bool.not_eq_true] at this
    rw [this]; simp
  · rcases lex_total (hK i j hi hj e) with h | h
    · rw [h]; exact decide_eq_true (rank_lt hi h)
    · have h2 : ¬ lexlt K i j = true := by rw [lexlt_iff] at *; omega
      rw [Bool.not_eq_true] at h2
      rw [h2]
      exact decide_eq_false (by have := rank_lt hj h; omega)
theorem rank_ne {K : Nat → Int × Int} (hK : ∀ i j, i < 5 → j < 5 → i ≠ j → (K i).2 ≠ (K j).2) {i j : Nat} (hi : i < 5) (hj : j < 5) (e : i ≠ j) : (rankK K i == rankK K j) = false := by
  rw [beq_eq_false_iff_ne]
  rcases lex_total (hK i j hi hj e) with h | h
  · have := rank_lt hi h; omega
  · have := rank_lt hj h; omega
theorem ranks_good {K : Nat → Int × Int} (hK : ∀ i j, i < 5 → j < 5 → i ≠ j → (K i).2 ≠ (K j).2) : goodR (ranks K) = true := by
  have h := allR_ok
  have s := fun i (hi : i < 5) => rank_small K hi
  have e := fun i j (hi : i < 5) (hj : j < 5) (h : i ≠ j) => rank_ne hK hi hj h
  unfold allR at h
  have h := List.all_eq_true.mp h (rankK K 0) (List.mem_range.mpr (s 0 (by decide)))
  have h := List.all_eq_true.mp h (rankK K 1) (List.mem_range.mpr (s 1 (by decide)))
  rw [e 0 1 (by decide) (by decide) (by decide), Bool.false_or] at h
  have h := List.all_eq_true.mp h (rankK K 2) (List.mem_range.mpr (s 2 (by decide)))
  rw [e 2 0 (by decide) (by decide) (by decide), e 2 1 (by decide) (by decide) (by decide), Bool.false_or, Bool.false_or] at h
  have h := List.all_eq_true.mp h (rankK K 3) (List.mem_range.mpr (s 3 (by decide)))
  rw [e 3 0 (by decide) (by decide) (by decide), e 3 1 (by decide) (by decide) (by decide), e 3 2 (by decide) (by decide) (by decide), Bool.false_or, Bool.false_or, Bool.false_or] at h
  have h := List.all_eq_true.mp h (rankK K 4) (List.mem_range.mpr (s 4 (by decide)))
  rw [e 4 0 (by decide) (by decide) (by decide), e 4 1 (by decide) (by decide) (by decide), e 4 2 (by decide) (by decide) (by decide), e 4 3 (by decide) (by decide) (by decide), Bool.false_or, Bool.false_or, Bool.false_or, Bool.false_or] at h
  exact h
noncomputable abbrev es0 : List (Int × Int) := [(0, 1), (2, 1)]
theorem ltF_lex (K : Nat → Int × Int) (i j : Nat) (a b : Int) : ltF es0 ((K j).1, b, (K j).2) ((K i).1, a, (K i).2) = lexlt K i j := by
  rw [Bool.eq_iff_iff, lexlt_iff]
  unfold ltF
  rw [decide_eq_true_iff]
  simp only [cmpF, cardI]
  simp only [if_true, show (2 : Int) ≠ 0 by decide, show (2 : Int) ≠ 1 by decide, if_false]
  by_cases h1 : (K i).1 < (K j).1
  · simp [h1]
  · by_cases h2 : (K j).1 < (K i).1
    · simp [h1, h2]; omega
    · by_cases h3 : (K i).2 < (K j).2
      · simp [h1, h2, h3]; omega
      · by_cases h4 : (K j).2 < (K i).2
        · simp [h1, h2, h3, h4]
        · simp [h1, h2, h3, h4]
theorem ord_map {lt : Nat → Nat → Bool} {es : List (Int × Int)} {f : Nat → Card} (h : ∀ i j, i < 5 → j < 5 → ltF es (f j) (f i) = lt i j) : ∀ (cs row : List Nat), (∀ x ∈ cs, x < 5) → (∀ x ∈ row, x < 5) → (cs.map f).foldl (insF es) (row.map f) = (cs.foldl (insI lt) row).map f
  | [], row, u1, u2 => rfl
  | x :: cs, row, hc, hr => by
    have hx := hc x (List.mem_cons_self ..)
    have key : ∀ (row : List Nat), (∀ y ∈ row, y < 5) → (row.map f).takeWhile (ltF es (f x)) = (row.takeWhile fun r => lt r x).map f ∧ (row.map f).dropWhile (ltF es (f x)) = (row.dropWhile fun r => lt r x).map f := by
      intro row
      induction row with
      | nil => intro _; exact ⟨rfl, rfl⟩
      | cons y row ih =>
        intro hr
        obtain ⟨i1, i2⟩ := ih fun z hz => hr z (List.mem_cons_of_mem _ hz)
        have e := h y x (hr y (List.mem_cons_self ..)) hx
        rw [List.map_cons, List.takeWhile_cons, List.dropWhile_cons, List.takeWhile_cons, List.dropWhile_cons, e]
        cases lt y x
        · exact ⟨rfl, rfl⟩
        · exact ⟨by simp only [if_true]; rw [i1]; rfl, by simp only [if_true]; exact i2⟩
    obtain ⟨k1, k2⟩ := key row hr
    have step : insF es (row.map f) (f x) = (insI lt row x).map f := by
      unfold insF insI
      rw [k1, k2, List.map_append, List.map_cons]
    rw [List.map_cons, List.foldl_cons, List.foldl_cons, step]
    refine ord_map h cs (insI lt row x) (fun y hy => hc y (List.mem_cons_of_mem _ hy)) fun y hy => ?_
    unfold insI at hy
    rcases List.mem_append.mp hy with hy | hy
    · exact hr y ((List.takeWhile_prefix _).subset hy)
    · rcases List.mem_cons.mp hy with rfl | hy
      · exact hx
      · exact hr y ((List.dropWhile_suffix _).subset hy)
theorem run_order {K : Nat → Int × Int} (hK : ∀ i j, i < 5 → j < 5 → i ≠ j → (K i).2 ≠ (K j).2) (z : Nat → Int) :
    kOk (rk (ranks K)) (kas_sort 5) = true ∧ ((kRun (rk (ranks K)) (kas_sort 5)).toList.map fun i => ((K i).1, z i, (K i).2)) = orderF es0 ([0, 1, 2, 3, 4].map fun i => ((K i).1, z i, (K i).2)) := by
  have g := ranks_good hK
  unfold goodR at g
  rw [Bool.and_eq_true, beq_iff_eq] at g
  refine ⟨g.1, ?_⟩
  rw [g.2]
  have := ord_map (lt := rk (ranks K)) (es := es0) (f := fun i => ((K i).1, z i, (K i).2)) (fun i j hi hj => by rw [rk_lex hK hi hj]; exact ltF_lex K i j _ _) [0, 1, 2, 3, 4] [] (by decide) (by simp)
  exact this.symm
end Mine
end
section
open PySem PySem.W PySem.Calls PyProof.Rows
set_option linter.unusedVariables false
set_option maxRecDepth 100000
namespace Mine
set_option genSizeOf false
set_option genInjectivity false
set_option tactic.hygienic false
noncomputable def KeysAt (h : Heap) (ks : List Value) (K : Nat → Int × Int) : Prop := ∀ i, i < ks.length → ∃ (T : Addr) (t u : Tok), ks[i]? = some (.ref T) ∧ IsT h T #[.int (K i).1 t, .int (K i).2 u]
theorem KeysAt.mv {h h' : Heap} {ks : List Value} {K : Nat → Int × Int} (x : KeysAt h ks K) (k : ∀ b o, h.get? b = some o → o.cls = .type "tuple" → h'.get? b = some o) : KeysAt h' ks K := fun i hi =>
  let ⟨T, t, u, h1, n, h2⟩ := x i hi; ⟨T, t, u, h1, n, k _ _ h2 rfl⟩
theorem KeysAt.tups {h : Heap} : ∀ {ks : List Value} {K : Nat → Int × Int}, KeysAt h ks K → ∃ fs, KatTups h ks fs ∧ fs.length = ks.length ∧ ∀ v ∈ fs, ∃ i t, v = .int i t
  | [], u1, u2 => ⟨[], .nil, rfl, by simp⟩
  | v :: ks, K, x => by
    obtain ⟨T, t, u, h1, n, h2⟩ := x 0 (by simp)
    obtain ⟨fs, g1, g2, g3⟩ := KeysAt.tups (ks := ks) (K := fun i => K (i + 1)) (h := h) fun i hi => by
      obtain ⟨T, t, u, q1, q2⟩ := x (i + 1) (by simp; omega)
      exact ⟨T, t, u, by simpa using q1, q2⟩
    have h1 : v = .ref T := by simpa using h1
    subst h1
    refine ⟨.int (K 0).1 t :: fs, .cons h2 rfl rfl rfl g1, by simp [g2], fun y hy => ?_⟩
    rcases List.mem_cons.mp hy with rfl | hy
    · exact ⟨_, _, rfl⟩
    · exact g3 y hy
section
variable {c : Cx} {n : Nat} {env : Env} {X X₀ own Z : Addr → Prop} {hA : Heap} {os : OsState} {s s' s₀ : Shared}
theorem key_ask {A : Around} {ks : List Value} {K : Nat → Int × Int} {i j : Nat} {C : Bool → Shared → Prop} (h : KeysAt s.heap ks K) (hi : i < ks.length) (hj : j < ks.length) (hu : A.units + 64 < cLine) (hC : C (lexlt K i j) s) : kas_ask PR c.w A (tuples' true) ks i j C s := by
  obtain ⟨T, t, u, h1, m, h2⟩ := h i hi
  obtain ⟨T', t', u', h1', m', h2'⟩ := h j hj
  have g1 : ks.getD i Value.none = .ref T := by rw [List.getD_eq_getElem?_getD, h1]; rfl
  have g2 : ks.getD j Value.none = .ref T' := by rw [List.getD_eq_getElem?_getD, h1']; rfl
  unfold kas_ask
  rw [g1, g2]
  refine kat_lt h2 rfl h2' rfl ?_
  show KatLex _ _ _ _ _ _ [(Value.int (K i).1 t, Value.int (K j).1 t'), (Value.int (K i).2 u, Value.int (K j).2 u')] 0 s
  refine kat_cons (wpAny_eqBool_int (kat_go (fun e => kat_yes (kat_cons (wpAny_eqBool_int (kat_go (fun e2 => kat_yes (kat_nil ?_)) fun e2 => kat_no ?_)))) fun e => kat_no ?_))
  · have e := beq_iff_eq.mp e
    have e2 := beq_iff_eq.mp e2
    have : lexlt K i j = false := by
      have : ¬ lexlt K i j = true := by rw [lexlt_iff]; omega
      simpa using this
    rw [this] at hC
    exact hC
  · have e := beq_iff_eq.mp e
    refine kat_one _ _ (wpAny_lt_int ?_)
    have : lexlt K i j = decide ((K i).2 < (K j).2) := by
      rw [Bool.eq_iff_iff, lexlt_iff, decide_eq_true_iff]; omega
    rw [this] at hC
    exact hC
  · have e := beq_eq_false_iff_ne.mp e
    refine oneLt_int ?_
    have : lexlt K i j = decide ((K i).1 < (K j).1) := by
      rw [Bool.eq_iff_iff, lexlt_iff, decide_eq_true_iff]; omega
    rw [this] at hC
    exact hC
theorem key_kind {A : Around} {E : Value → Shared → Prop} {M : Model} {ks : List Value} {K : Nat → Int × Int} {Q : SortKind → Shared → Prop} (h : KeysAt s.heap ks K) (h0 : 0 < ks.length) (hQ : Q (tuples' true) s) : wpAny M A (keyKind' ks.toArray) Q E s := by
  obtain ⟨fs, g1, g2, g3⟩ := h.tups
  refine kat_kind (T := .type "int") g1 (by omega) (fun v hv => ?_) (by decide) hQ
  obtain ⟨i, t, rfl⟩ := g3 v hv
  exact Looks.of_pure rfl
end
end Mine
end
section
open PySem PySem.W PySem.Calls PyProof.Rows
set_option linter.unusedVariables false
set_option maxRecDepth 100000
namespace Mine
set_option genSizeOf false
set_option genInjectivity false
set_option tactic.hygienic false
section
variable {c : Cx} {n : Nat} {env : Env} {X X₀ own Z : Addr → Prop} {hA : Heap} {os : OsState} {s s' s₀ : Shared}
structure Srt (c : Cx) (s₀ : Shared) (D kS : Addr) (e1 : Nat) (K : Nat → Int × Int) (ks : List Value) (s : Shared) : Prop where
  ext : Ext s₀ s
  inv : Inv c s
  atD : s.heap.get? D = some (seqObj "list" #[] e1)
  atK : ∃ ek, s.heap.get? kS = some (seqObj "list" ks.toArray ek)
  keys : KeysAt s.heap ks K
theorem tup_ne {h : Heap} {a b : Addr} {o : Obj} {xs : Array Value} {n : Nat} (h1 : h.get? a = some o) (hc : o.cls = .type "tuple") (h2 : h.get? b = some (seqObj "list" xs n)) : a ≠ b := fun e => by
  rw [e, h2] at h1; cases h1
  injection hc with hc
  exact absurd hc (by decide)
theorem Srt.upd {D kS a : Addr} {e1 : Nat} {K : Nat → Int × Int} {ks : List Value} {xs : Array Value} {m : Nat} {f : Array Value → Array Value} (x : Srt c s₀ D kS e1 K ks s) (ha : s.heap.get? a = some (seqObj "list" xs m)) (fr : s₀.heap.get? a = none) (far : @LT.lt Nat _ 256 a) :
    Ez c s₀ { s with heap := s.heap.update a (Obj.mapSeq f) } (KeysAt (s.heap.update a (Obj.mapSeq f)) ks K ∧ (∃ m', (s.heap.update a (Obj.mapSeq f)).get? a = some (seqObj "list" (f xs) m')) ∧ ∀ b o, b ≠ a → s.heap.get? b = some o → (s.heap.update a (Obj.mapSeq f)).get? b = some o) := by
  have hs := Heap.SameBut.update s.heap a (Obj.mapSeq f)
  refine ⟨ext_kp (s' := { s with heap := s.heap.update a (Obj.mapSeq f) }) (Z := fun b => b = a) x.ext (.same hs rfl) rfl fun b h => h ▸ fr, x.inv.sameBut (t := s.toks) hs far, x.keys.mv fun b o ho hc => (hs.2 b (tup_ne ho hc ha)).trans ho, ?_, fun b o ne e => (hs.2 b ne).trans e⟩
  obtain ⟨m', hm⟩ : ∃ m', Obj.mapSeq f (seqObj "list" xs m) = seqObj "list" (f xs) m' := by unfold Obj.mapSeq; exact ⟨_, rfl⟩
  exact ⟨m', (Heap.get?_update_self _ ha (by rw [hm]; rfl)).trans (by rw [hm])⟩
theorem toA_app (ks : List Value) (k : Value) : ks.toArray.push k = (ks ++ [k]).toArray := by simp
theorem sort_tree {q D : Addr} {m : Nat} {vs : List Value} {K : Nat → Int × Int} {P : PySem.Fin → Shared → Prop} (h5 : vs.length = 5) (hn : n ≤ 30) (E0 : Ext s₀ s) (I0 : Inv c s) (hD : s.heap.get? D = some (seqObj "list" vs.toArray m)) (fD : s₀.heap.get? D = none) (farD : @LT.lt Nat _ 256 D)
    (hK : ∀ i j, i < 5 → j < 5 → i ≠ j → (K i).2 ≠ (K j).2)
    (hf : ∀ j x s1, vs[j]? = some x → Ext s₀ s1 → Inv c s1 → W c (n + 1) (call (.ref q) [x]) (fun kv s2 => Ez c s1 s2 (∃ (T : Addr) (t u : Tok), kv = .ref T ∧ IsT s2.heap T #[.int (K j).1 t, .int (K j).2 u])) s1)
    (hP : ∀ s', Ext s₀ s' → Inv c s' → IsL s'.heap D ((kRun (rk (ranks K)) (kas_sort 5)).toList.map fun i => vs.getD i Value.none).toArray → P (.done (.ret .none)) s') :
    wpAny (model PR c.w) (AL n).in1.in1 (ksk_tree D (.ref q) false) P NoE s := by
  unfold ksk_tree
  refine wpAny_bind (listItems_at hD rfl ?_)
  refine wpAny_bind (listUpdate_at hD rfl ?_ (by rw [List.size_toArray, h5]; decide) (Nat.zero_le _))
  have hs1 := Heap.SameBut.update s.heap D (Obj.mapSeq fun uu => (#[] : Array Value))
  obtain ⟨e1, hD1⟩ : ∃ e1, (s.heap.update D (Obj.mapSeq fun uu => (#[] : Array Value))).get? D = some (seqObj "list" #[] e1) := ⟨_, get?_update_seq hD fun uu => #[]⟩
  have E1 : Ext s₀ { s with heap := s.heap.update D (Obj.mapSeq fun uu => (#[] : Array Value)) } := ext_kp (s' := { s with heap := s.heap.update D (Obj.mapSeq fun uu => (#[] : Array Value)) }) (Z := fun b => b = D) E0 (.same hs1 rfl) rfl fun b h => h ▸ fD
  have I1 : Inv c { s with heap := s.heap.update D (Obj.mapSeq fun uu => (#[] : Array Value)) } := I0.sameBut (t := s.toks) hs1 farD
  refine wpAny_bind (seqEpoch_at hD1 rfl ?_)
  refine wpAny_bind (wpAny_newTuple ?_ (by show vs.length ≤ _; rw [h5]; decide))
  refine wpAny_bind (wpAny_newList ?_ (Nat.zero_le _))
  refine wpAny_holding ?_
  generalize hH1 : s.heap.update D (Obj.mapSeq fun uu => (#[] : Array Value)) = H1 at hD1 E1 I1 ⊢
  have Ea := ext_push ({ s with heap := H1 } : Shared) (seqObj "tuple" vs.toArray 0)
  have Eb := ext_push ({ s with heap := H1.push (seqObj "tuple" vs.toArray 0) } : Shared) (seqObj "list" #[] 0)
  have hkS : (H1.push (seqObj "tuple" vs.toArray 0)).objs.size = H1.objs.size + 1 := Heap.size_push _ _
  generalize hkk : (H1.push (seqObj "tuple" vs.toArray 0)).objs.size = kS at hkS ⊢
  have kF1 : H1.get? kS = none := by
    cases q : H1.get? kS with
    | none => rfl
    | some o => have := Heap.lt_size q; exact absurd this (Nat.not_lt.mpr (by rw [hkS]; exact Nat.le_succ _))
  have kF : s₀.heap.get? kS = none := ext_none E1 kF1
  have farK : @LT.lt Nat _ 256 kS := by rw [hkS]; exact Nat.lt_succ_of_lt I1.size
  have neDK : D ≠ kS := fun e => by rw [← e, hD1] at kF1; cases kF1
  have S0 : Srt c s₀ D kS e1 K [] { s with heap := (H1.push (seqObj "tuple" vs.toArray 0)).push (seqObj "list" #[] 0) } :=
    ⟨E1.trans (Ea.trans Eb), I1.keep (Ea.trans Eb).keep I1.bare, (Ea.trans Eb).keep.get hD1 (by intro e; cases e), ⟨0, hkk ▸ Heap.get?_push_size _ rfl⟩, fun i hi => absurd hi (Nat.not_lt_zero _)⟩
  unfold ksk_rest
  refine wpAny_bind (wpAny_rule ?_)
  rw [List.forIn_toArray]
  refine wpAny_bind (ksk_fold (fun i s' => ∃ ks, ks.length = i ∧ Srt c s₀ D kS e1 K ks s') vs 0 _ ⟨[], rfl, S0⟩ (fun j x s1 hx zp => ?_) fun s1 zp => ?_)
  · obtain ⟨ks, hl, S⟩ := zp
    have hl : ks.length = j := by omega
    refine wpAny_bind (wpAny_attempt ?_)
    refine wpAny_mono (wp_weak (A' := AL (n + 1)) rfl (by show 320 + 20 * n ≤ 320 + 20 * (n + 1); omega) (by show 200 + 200 * n + 1 + 1 ≤ 200 + 200 * (n + 1); omega) rfl rfl (hf j x s1 hx S.ext S.inv)) (fun kv s2 zr => ?_) fun uu uu z => z.elim
    obtain ⟨E2, I2, T, t, u, ek, ht⟩ := zr
    subst ek
    obtain ⟨em, hm⟩ := S.atK
    have S2 : Srt c s₀ D kS e1 K ks s2 := ⟨S.ext.trans E2, I2, E2.keep.get S.atD (by intro e; cases e), ⟨em, E2.keep.get hm (by intro e; cases e)⟩, S.keys.mv fun b o ho hc => E2.keep.get ho (by rw [hc]; intro e; cases e)⟩
    obtain ⟨em2, hm2⟩ := S2.atK
    obtain ⟨u1, u2, u3, ⟨m', u4⟩, u5⟩ := S2.upd (f := (·.push (.ref T))) hm2 kF farK
    dsimp only
    have vl : ks.length ≤ 10 := by
      have := (List.getElem?_eq_some_iff.mp hx).1
      omega
    refine wpAny_bind (listUpdate_at hm2 rfl ?_ (by rw [List.size_toArray]; show ks.length ≤ 2 ^ 24; omega) (by rw [Array.size_push, List.size_toArray]; show ks.length + 1 ≤ 2 ^ 24 + 1; omega))
    refine wpAny_pure ⟨rfl, ks ++ [.ref T], by simp; omega, u1, u2, u5 D _ neDK S2.atD, ⟨m', by rw [← toA_app]; exact u4⟩, fun i hi => ?_⟩
    by_cases q : i < ks.length
    · obtain ⟨T', t', u', h1, h2⟩ := u3 i q
      exact ⟨T', t', u', by rw [List.getElem?_append_left q]; exact h1, h2⟩
    · have : i = ks.length := by simp at hi; omega
      subst this
      obtain ⟨k, hk⟩ := ht
      refine ⟨T, t, u, by simp, k, u5 T _ (tup_ne hk rfl hm2) ?_⟩
      rw [hl]; exact hk
  · obtain ⟨ks, hl, S⟩ := zp
    have hl : ks.length = 5 := by omega
    obtain ⟨em, hm⟩ := S.atK
    refine wpAny_bind (listItems_at hm rfl ?_)
    unfold ksk_end
    dsimp only
    have hn2 : ¬ vs.toArray.size < 2 := by rw [List.size_toArray, h5]; decide
    rw [if_neg hn2, if_neg hn2]
    refine wpAny_bind (key_kind S.keys (by omega) ?_)
    have g := run_order hK fun uu => 0
    have hu : (AL n).in1.in1.units + 64 < cLine := by show 200 + 200 * n + 1 + 1 + 64 < 9900; omega
    refine wpAny_bind (wpAny_mono (kat_run (Q := fun st' s2 => ∃ p : Array Nat, p = kRun (rk (ranks K)) (kas_sort 5) ∧ s2 = s1 ∧ arrOf st' = p.map (kas_item (ks.toArray.zip vs.toArray)) ∧ failedOf st' = none) (G := fun p s2 => p = kRun (rk (ranks K)) (kas_sort 5) ∧ s2 = s1) (by omega) (by omega) (by omega)
      (fun p st' s2 uu h1 h2 h3 => ⟨p, h3.1, h3.2, h1, h2⟩) ?_) (fun r s2 zp => ?_) fun uu uu z => z)
    · rw [h5]
      exact kWp (lt := rk (ranks K)) (fun i j C hi hj hC => key_ask S.keys (by omega) (by omega) hu (by rw [rk_lex hK hi hj] at hC; exact hC)) _ g.1 ⟨rfl, rfl⟩
    · obtain ⟨p, hp, es, har, hfl⟩ := zp
      subst es
      obtain ⟨⟨⟩, st'⟩ := r
      dsimp only at har hfl ⊢
      unfold ksk_tail
      dsimp only
      rw [kat_snds (by omega) har]
      obtain ⟨u1, u2, u3, ⟨m', u4⟩, u5⟩ := S.upd (f := fun uu => #[]) hm kF farK
      refine wpAny_bind (listUpdate_at hm rfl ?_ (by rw [List.size_toArray]; show ks.length ≤ 2 ^ 24; omega) (Nat.zero_le _))
      refine wpAny_bind (wpAny_letGo ?_)
      have hD2 := u5 D _ neDK S.atD
      refine wpAny_bind (seqEpoch_at hD2 rfl ?_)
      have S2 : Srt c s₀ D kS e1 K [] { s2 with heap := s2.heap.update kS (Obj.mapSeq fun uu => #[]) } := ⟨u1, u2, hD2, ⟨m', u4⟩, fun i hi => absurd hi (Nat.not_lt_zero _)⟩
      have psz : p.size = 5 := by
        have := congrArg List.length g.2
        rw [hp]
        simp only [List.length_map, Array.length_toList] at this
        rw [this]
        show (List.foldl (insF es0) [] _).length = 5
        simp only [List.map_cons, List.map_nil, List.foldl_cons, List.foldl_nil, insF_length, List.length_nil]
      obtain ⟨w1, w2, _, ⟨m2, w4⟩, w5⟩ := S2.upd (f := fun uu => List.toArray (p.toList.map fun i => vs.getD i Value.none)) hD2 fD farD
      refine wpAny_bind (listUpdate_at hD2 rfl ?_ (Nat.zero_le _) (by simp only [Bool.false_eq_true, if_false]; rw [List.size_toArray, List.length_map, Array.length_toList, psz]; decide))
      rw [hfl]
      rw [bne_self_eq_false, if_neg Bool.false_ne_true]
      refine wpAny_pure (hP _ w1 w2 ⟨m2, ?_⟩)
      rw [← hp]
      exact w4
end
end Mine
end
section
open PySem PySem.W PySem.Calls PyProof.Rows
set_option linter.unusedVariables false
set_option maxRecDepth 100000
namespace Mine
set_option genSizeOf false
set_option genInjectivity false
set_option tactic.hygienic false
section
variable {c : Cx} {n : Nat} {env : Env} {X X₀ own Z : Addr → Prop} {hA : Heap} {os : OsState} {s s' s₀ : Shared}
theorem sorted_five {q l : Addr} {vs : List Value} {K : Nat → Int × Int} {Q : Value → Shared → Prop} (h5 : vs.length = 5) (hn : n ≤ 30) (I0 : Inv c s) (hl : s.heap.IsList l vs.toArray)
    (hK : ∀ i j, i < 5 → j < 5 → i ≠ j → (K i).2 ≠ (K j).2)
    (hf : ∀ j x s1, vs[j]? = some x → Ext s s1 → Inv c s1 → W c (n + 1) (call (.ref q) [x]) (fun kv s2 => Ez c s1 s2 (∃ (T : Addr) (t u : Tok), kv = .ref T ∧ IsT s2.heap T #[.int (K j).1 t, .int (K j).2 u])) s1)
    (hQ : ∀ D s', s.heap.get? D = none → Ext s s' → Inv c s' → IsL s'.heap D ((kRun (rk (ranks K)) (kas_sort 5)).toList.map fun i => vs.getD i Value.none).toArray → Q (.ref D) s') :
    W c n (call (.builtin "sorted") [.ref l] [(Str.ofString "key", .ref q)]) Q s := by
  refine call_function_entry_kw kind_sorted plain_sorted entry_sorted (ksk_s1 _ _) ?_
  unfold Builtin.«sorted»
  refine wpAny_bind (m := checkCount "sorted" 1 1 _) (wpAny_pure ?_)
  refine wpAny_bind (collect_list hl ?_ (by rw [h5]; decide))
  refine wpAny_bind (wpAny_newList ?_ (by rw [h5]; decide))
  have E1 := ext_push s (seqObj "list" #[] 0)
  have hs2 := Heap.SameBut.update (s.heap.push (seqObj "list" #[] 0)) s.heap.objs.size (Obj.mapSeq (· ++ vs.toArray))
  have E2 : Ext s { s with heap := (s.heap.push (seqObj "list" #[] 0)).update s.heap.objs.size (Obj.mapSeq (· ++ vs.toArray)) } :=
    ext_kp (s' := { s with heap := (s.heap.push (seqObj "list" #[] 0)).update s.heap.objs.size (Obj.mapSeq (· ++ vs.toArray)) }) (Z := fun b => b = s.heap.objs.size) E1 (.same hs2 rfl) rfl fun b h => h ▸ size_none _
  have I2 : Inv c { s with heap := (s.heap.push (seqObj "list" #[] 0)).update s.heap.objs.size (Obj.mapSeq (· ++ vs.toArray)) } := (I0.keep E1.keep I0.bare).sameBut (t := s.toks) hs2 I0.size
  have hsz : ((s.heap.push (seqObj "list" #[] 0)).update s.heap.objs.size (Obj.mapSeq (· ++ vs.toArray))).objs.size = s.heap.objs.size + 1 := by rw [Heap.size_update, size_push']
  generalize hH : (s.heap.push (seqObj "list" #[] 0)).update s.heap.objs.size (Obj.mapSeq (· ++ vs.toArray)) = H at E2 I2 hsz ⊢
  have E3 := ext_push ({ s with heap := H } : Shared) (seqObj "list" vs.toArray 0)
  have I3 := I2.keep E3.keep I2.bare
  have hoL : (H.push (seqObj "list" vs.toArray 0)).get? H.objs.size = some (seqObj "list" vs.toArray 0) := Heap.get?_push_size _ rfl
  have fD : s.heap.get? H.objs.size = none := ext_none E2 (size_none _)
  have farD : @LT.lt Nat _ 256 H.objs.size := I2.size
  refine wpAny_bind (wpAny_holding (wpAny_call_entry_kw slot_list_sort ⟨_, hoL, rfl⟩ entry_list_sort ?_ (ksk_l1 _ _)))
  rw [ksk_t1]
  exact sort_tree (s₀ := s) (s := { s with heap := H.push (seqObj "list" vs.toArray 0) }) h5 hn (E2.trans E3) I3 hoL fD farD hK hf fun s' E' I' hL => ⟨_, rfl, wpAny_pure ⟨_, rfl, hQ _ s' fD E' I' hL⟩⟩
end
end Mine
end
section
open PySem PySem.W PySem.Calls PyProof.Rows
set_option linter.unusedVariables false
set_option maxRecDepth 100000
namespace Mine
set_option genSizeOf false
set_option genInjectivity false
set_option tactic.hygienic false
noncomputable def lamSc : Scope := { kind := .function, names := [("card", .local)], isGenerator := false, isCoroutine := false, more := [] }
noncomputable def lamPr (p : Pos) : Arguments := { posonlyargs := [], args := [{ arg := "card", annotation := none, pos := p }], vararg := none, kwonlyargs := [], kw_defaults := [], kwarg := none, defaults := [] }
noncomputable def lamBd (p1 p2 p3 p4 p5 p6 p7 : Pos) : Expr := .Tuple [.Subscript (.Name "card" p1) (.Constant (.int 0) 0 p2) p3, .Subscript (.Name "card" p4) (.Constant (.int 2) 0 p5) p6] 0 p7
section
variable {c : Cx} {n : Nat} {env : Env} {X X₀ own Z : Addr → Prop} {hA : Heap} {os : OsState} {s s' s₀ : Shared} {σ : List (Str × LV)}
theorem lam_call {q c' T : Addr} {qual : Str} {pm ctv : Value} {p p1 p2 p3 p4 p5 p6 p7 : Pos} {x0 x1 x2 : Int} (hn : n ≤ 20) (hq : s.heap.get? q = some (kla_obj "<lambda>" qual (lamPr p) (lamBd p1 p2 p3 p4 p5 p6 p7) lamSc [] pm c' ctv)) (hcd : s.heap.CodeRec (.ref c') qual) (I : Inv c s)
    (tv : Tr s.heap (fun uu => False) (cardD (x0, x1, x2)) (.ref T)) : W c n (call (.ref q) [.ref T]) (fun kv s2 => Ez c s s2 (∃ (T' : Addr) (t u : Tok), kv = .ref T' ∧ IsT s2.heap T' #[.int x0 t, .int x2 u])) s := by
  refine wpAny_call (kla_callFunE (by show 320 + 20 * n < 1000; omega) hq rfl rfl rfl rfl hcd ?_)
  refine wpAny_of_eq (a := [(("card" : Str), Value.ref T)]) rfl ?_
  refine wpAny_newFunctionEnv (by show ∀ y ∈ lamSc.names, y.2 ≠ .cell; decide) (by intro y hy; simp only [List.mem_cons, List.not_mem_nil, or_false] at hy; subst hy; rfl) (fun h₁ hns hsb => ?_) rfl
  have hk₁ : ∀ b o, s.heap.get? b = some o → h₁.get? b = some o := fun b o e => hsb.extBut b o (Nat.ne_of_lt (Heap.lt_size e)) (Heap.get?_push_of_some _ e)
  have E1 : Ext s { s with heap := h₁, toks := s.toks + 1 } := ⟨Keep.full hk₁, rfl⟩
  have I1 := I.keep E1.keep I.bare
  refine ⟨I1.lim, ?_⟩
  show codeAny _ _ (.expr (lamBd p1 p2 p3 p4 p5 p6 p7) (envX qual lamSc s.heap.objs.size q (.ref c') [])) _ { s with heap := h₁, toks := s.toks + 1 }
  have B : Bd c (envX qual lamSc s.heap.objs.size q (.ref c') []) (fun uu => False) (fun a => a = s.heap.objs.size) (fun uu => True) h₁ s.os { s with heap := h₁, toks := s.toks + 1 } [("card", .tr (cardD (x0, x1, x2)))] := {
    inv := I1
    os := rfl
    chg := .refl _ _
    mine := fun uu uu => .inl trivial
    ex := fun a h => by
      rcases h with h | rfl
      · exact h.elim
      · obtain ⟨o, _, _, ho, _⟩ := hns
        rw [show ({ s with heap := h₁, toks := s.toks + 1 } : Shared).heap.get? s.heap.objs.size = some o from ho]; rfl
    far := fun a h => h ▸ I.size
    dis := fun a uu q => q
    ownL := rfl
    ownC := fun x a h => nomatch h
    dcs := fun x lv a q ha => by
      rcases lookup_cons_or q with ⟨_, e⟩ | ⟨_, q⟩
      · subst e; exact nomatch ha
      · cases q
    loc := by
      refine ⟨fun x => [(("card" : Str), Value.ref T)].reverse.lookup x, ⟨⟨_, hns, fun uu uu => rfl⟩, fun x a uu h => (nomatch h), List.Pairwise.nil, fun uu uu h => (nomatch h), fun x hx => ?_⟩, fun x lv q => ?_⟩
      · have hx : (([("card", NameKind.local)] : List (Str × NameKind)).lookup x) = some .cell := hx
        rw [List.lookup_cons] at hx
        split at hx <;> cases hx
      · rcases lookup_cons_or q with ⟨rfl, e⟩ | ⟨_, q⟩
        · subst e
          refine ⟨.ref T, rfl, Tr.mv ⟨fun a o uu e uu => hk₁ a o e, fun a na sa q => ?_⟩ _ _ tv⟩
          rcases q with q | q
          · exact q
          · rw [q, size_none] at sa; cases sa
        · cases q }
  refine kla_codeExpr ?_
  have ev : EvD c (n + 1) (fun a => False ∨ a = s.heap.objs.size) _ (eval (lamBd p1 p2 p3 p4 p5 p6 p7) (envX qual lamSc s.heap.objs.size q (.ref c') [])) (.tup [.int x0, .int x2]) :=
    ev_tup B.ex (.cons (ev_item_tup (j := 0) (ev_loc B rfl) ev_int (by decide) (by decide) rfl rfl) (.cons (ev_item_tup (j := 2) (ev_loc B rfl) ev_int (by decide) (by decide) rfl rfl) .nil))
  refine wz (wp_weak (A' := AL (n + 1)) rfl (by show 320 + 20 * n + 1 ≤ 320 + 20 * (n + 1); omega) (by show 200 + 200 * n + 3 ≤ 200 + 200 * (n + 1); omega) rfl rfl (ev _ (.refl _) I1)) (fun v s2 E2 I2 zr => ?_)
  obtain ⟨T', us, ev', _, hT, v1, r1, e1, ⟨t, q1⟩, v2, r2, e2, ⟨u, q2⟩, e3⟩ := zr
  have e3 : r2 = [] := e3
  subst e3 e2 q1 q2 ev'
  have : us = #[.int x0 t, .int x2 u] := Array.toList_inj.mp e1
  subst this
  exact ⟨E1.trans E2, I2, T', t, u, rfl, hT⟩
end
end Mine
end
section
open PySem PySem.W PySem.Calls PyProof.Rows
set_option linter.unusedVariables false
set_option maxRecDepth 100000
namespace Mine
set_option genSizeOf false
set_option genInjectivity false
set_option tactic.hygienic false
theorem FNS_253 : ∀ f ∈ FNS, f.a ≠ 253 ∧ f.cd ≠ 253 := by
  have : (FNS.all fun f => decide (f.a ≠ 253) && decide (f.cd ≠ 253)) = true := by rfl
  intro f hf
  have := List.all_eq_true.mp this f hf
  simpa using this
structure LamK (c : Cx) : Prop where
  no253 : c.K.lookup 253 = none
  code255 : codeHdIn c.K 255 253 = true
section
variable {c : Cx} {n : Nat} {env : Env} {X X₀ own Z : Addr → Prop} {hA : Heap} {os : OsState} {s s' s₀ : Shared} {σ : List (Str × LV)} {pos : Pos} {rest body : List Stmt} {Q : Flow → Shared → Prop}
theorem Inv.at253 (I : Inv c s) (L : LamK c) (k : Kp (fun a => a = 253) s.heap s'.heap) (hb : AllBare s'.gens) : Inv c s' := by
  have ne : ∀ a : Addr, a ≠ 253 → ¬ (fun a : Addr => a = 253) a := fun a h => h
  refine ⟨ns_kp k (by decide) I.gl, ns_kp k (by decide) I.bl, let ⟨m, a, b⟩ := I.lim; ⟨m, ns_kp k (by decide) a, b⟩, fun f m => ?_, fun b o e => ?_, I.low, hb, fun a ha => tab_step (I.tab a ha) fun o e => ((k a o e).resolve_left ?_).imp id fun zp => by obtain ⟨_, ps, more, q⟩ := zp; exact ⟨ps, more, q⟩, let ⟨ob, h1, h2, h3, h4⟩ := I.bmod; ⟨ob, h1, k.get h2 (by decide) (by rw [h3]; intro e; cases e), h3, h4⟩⟩
  · obtain ⟨g1, g2⟩ := FNS_253 f m
    obtain ⟨o, kV, doc, pm, an, ct, h1, h2, h3, oc, vs, t, h4, h5, h6⟩ := I.fn f m
    exact ⟨o, kV, doc, pm, an, ct, k.get h1 g1 (by rw [h2]; intro e; cases e), h2, h3, oc, vs, t, k.get h4 g2 (by rw [h5]; intro e; cases e), h5, h6⟩
  · have lo := I.low b o e
    rcases k b o (I.kin b o e) with z | z | ⟨z, _⟩
    · have z : b = 253 := z
      rw [z, L.no253] at e; cases e
    · exact z
    · exact absurd z lo.1
  · have : a = 79 ∨ a = 86 := by simpa [tabs] using ha
    rcases this with rfl | rfl <;> decide
theorem mv253 {h h' : Heap} (k : Kp (fun a => a = 253) h h') (h0 : ∀ o, h.get? 253 = some o → o.cls = .none) : Mv h h' X X := ⟨fun a o uu e hc => k.get e (fun q => by
    have q : a = 253 := q
    subst q; exact hc (h0 o e)) hc, fun uu n uu => n⟩
theorem Bd.at253 (B : Bd c env X₀ own Z hA os s σ) (L : LamK c) (k : Kp (fun a => a = 253) s.heap s'.heap) (hZ : Z 253) (h0 : ∀ o, s.heap.get? 253 = some o → o.cls = .none) (h1 : (s'.heap.get? 253).isSome = true) (hb : AllBare s'.gens) (ho : s'.os = s.os) : Bd c env X₀ own Z hA os s' σ where
  inv := B.inv.at253 L k hb
  os := ho.trans B.os
  chg := B.chg.trans k fun a h => .inl (h ▸ hZ)
  mine := B.mine
  ex := fun a h => by
    by_cases q : a = 253
    · rw [q]; exact h1
    · exact k.there (B.ex a h) q
  far := B.far
  dis := B.dis
  ownL := B.ownL
  ownC := B.ownC
  dcs := B.dcs
  loc := by
    obtain ⟨vm, F, g⟩ := B.loc
    have no : ∀ a, own a → ¬ a = 253 := fun a h q => by
      have := B.far a h
      rw [q] at this; exact absurd this (by decide)
    refine ⟨vm, F.kp k (no _ B.ownL) fun x a hx => no a (B.ownC x a hx), fun y lv q => ?_⟩
    obtain ⟨v, p1, p2⟩ := g y lv q
    exact ⟨v, p1, LV.ok.mv (mv253 k h0) (fun a o uu ha e hc => k.get e (no a ha) hc) (fun uu z => z) p2⟩
theorem lam_make {p lp p1 p2 p3 p4 p5 p6 p7 : Pos} {Qv : Value → Shared → Prop} (L : LamK c) (I : Inv c s) (hgl : env.globals = mainGlobals) (hcode : env.code = .ref 255) (hcl : closureFor lamSc env = pure []) (h253 : s.heap.get? 253 = some (tabObj #[]))
    (h : ∀ q s' c' pm ctv, Kp (fun a => a = 253) s.heap s'.heap → s'.os = s.os → AllBare s'.gens → (∃ ps, s'.heap.get? 253 = some (tabObj ps)) → Inv c s' → s'.heap.get? q = some (kla_obj "<lambda>" (env.qual ++ "<lambda>") (lamPr p) (lamBd p1 p2 p3 p4 p5 p6 p7) lamSc [] pm c' ctv) → s'.heap.CodeRec (.ref c') (env.qual ++ "<lambda>") → @LT.lt Nat _ 256 c' → Qv (.ref q) s') :
    W c n (eval (.Lambda (lamPr p) (lamBd p1 p2 p3 p4 p5 p6 p7) lamSc lp) env) Qv s := by
  obtain ⟨ob, b1, b2, b3, b4, b5⟩ := I.bmod
  have ht : TriplesOk (#[] : Array Value).toList := trivial
  refine kla_eval rfl (kla_makeFunction (ps := #[]) hcl hgl I.gl hcode (codeHd_of_K I.kin L.code255) h253 ht rfl (by decide) ⟨4, ob, b1, by decide, by decide, by decide, b2, b3, b4, b5⟩ fun c' ctv h' tk hx hge hlt hrec htab => ?_)
  have kp1 : Kp (fun a => a = 253) s.heap (h'.push (kla_obj "<lambda>" (env.qual ++ "<lambda>") (lamPr p) (lamBd p1 p2 p3 p4 p5 p6 p7) lamSc [] ((c.mg "__name__").getD .none) c' ctv)) := fun b o e => by
    by_cases q : b = 253
    · exact .inl q
    · exact .inr (.inl (Heap.get?_push_of_some _ (hx b o q e)))
  refine h _ _ c' _ ctv kp1 rfl I.bare ?_ (I.at253 (s' := { s with heap := h'.push (kla_obj "<lambda>" (env.qual ++ "<lambda>") (lamPr p) (lamBd p1 p2 p3 p4 p5 p6 p7) lamSc [] ((c.mg "__name__").getD .none) c' ctv), toks := tk }) L kp1 I.bare) (Heap.get?_push_size _ rfl) ?_ (Nat.lt_of_lt_of_le I.size hge)
  · exact ⟨_, Heap.get?_push_of_some _ htab⟩
  · obtain ⟨c₂, o₂, vs₂, t₂, e₂, g₂, r₂⟩ := hrec
    exact ⟨c₂, o₂, vs₂, t₂, e₂, Heap.get?_push_of_some _ g₂, r₂⟩
end
end Mine
end
section
open PySem PySem.W PySem.Calls PyProof.Rows
set_option linter.unusedVariables false
set_option maxRecDepth 100000
namespace Mine
set_option genSizeOf false
set_option genInjectivity false
set_option tactic.hygienic false
noncomputable def cardAt (K : Nat → Int × Int) (z : Nat → Int) (i : Nat) : Card := ((K i).1, z i, (K i).2)
noncomputable def cards5 (K : Nat → Int × Int) (z : Nat → Int) : List Card := [0, 1, 2, 3, 4].map (cardAt K z)
theorem cards_ok (cs : List Card) : D.Ok (.lst (cs.map cardD)) := by
  constructor
  · show D.plains (cs.map cardD) = true
    induction cs with
    | nil => rfl
    | cons a cs ih => show (true && D.plains (cs.map cardD)) = true; rw [ih]; rfl
  · show D.deps (cs.map cardD) + 1 ≤ 60
    have : D.deps (cs.map cardD) ≤ 1 := by
      induction cs with
      | nil => exact Nat.zero_le _
      | cons a cs ih => show max 1 (D.deps (cs.map cardD)) ≤ 1; omega
    omega
theorem TrL.pick {h : Heap} {X : Addr → Prop} {ds : List D} {vs : List Value} (t : TrL h X ds vs) : ∀ (p : List Nat), (∀ i ∈ p, i < ds.length) → TrL h X (p.map fun i => ds.getD i .none) (p.map fun i => vs.getD i Value.none)
  | [], u1 => rfl
  | i :: p, hp => by
    have hi := hp i (List.mem_cons_self ..)
    obtain ⟨v, h1, h2⟩ := t.get (j := i) (List.getElem?_eq_getElem hi)
    refine ⟨_, _, rfl, ?_, TrL.pick t p fun j hj => hp j (List.mem_cons_of_mem _ hj)⟩
    show Tr h X (ds.getD i .none) (vs.getD i Value.none)
    rw [List.getD_eq_getElem?_getD, List.getD_eq_getElem?_getD, List.getElem?_eq_getElem hi, h1]
    exact h2
section
variable {c : Cx} {n : Nat} {env : Env} {X X₀ own Z : Addr → Prop} {hA : Heap} {os : OsState} {s s' s₀ : Shared} {σ : List (Str × LV)} {pos : Pos} {rest body : List Stmt} {Q : Flow → Shared → Prop}
theorem st_sortcheck {x y : Str} {xp yp sp lp p p1 p2 p3 p4 p5 p6 p7 kp cp qp : Pos} {K : Nat → Int × Int} {z : Nat → Int} (O : c.Ok) (L : LamK c) (hn : n ≤ 19) (B : Bd c env X₀ own Z hA os s σ) (hZ : Z 253) (h253 : s.heap.get? 253 = some (tabObj #[]))
    (hK : ∀ i j, i < 5 → j < 5 → i ≠ j → (K i).2 ≠ (K j).2) (hx : σ.lookup x = some (.tr (.lst ((orderF es0 (cards5 K z)).map cardD)))) (hy : σ.lookup y = some (.tr (.lst ((cards5 K z).map cardD))))
    (h : ∀ s', Bd c env X₀ own Z hA os s' σ → (∃ ps, s'.heap.get? 253 = some (tabObj ps)) → W c n (execs rest env) Q s')
    (hcode : autoParam (env.code = .ref 255) tacR) (hcl : autoParam (closureFor lamSc env = pure []) tacR) (hk : autoParam (env.scope.kind = .function) tacR) (hxk : autoParam (isLC (env.kindOf x) = true) tacR) (hyk : autoParam (isLC (env.kindOf y) = true) tacR) (hxd : autoParam ((x == ("__debug__" : Str)) = false) tacD) (hyd : autoParam ((y == ("__debug__" : Str)) = false) tacD)
    (hxx : autoParam (env.kindOf "sorted" = some .globalImplicit) tacR) (hgl : autoParam (env.globals = mainGlobals) tacR) (hbl : autoParam (env.builtins = builtinsNs) tacR) :
    W c n (execs (.If (.Compare (.Name x xp) [.NotEq] [.Call (.Name "sorted" sp) [.Name y yp] [⟨some "key", .Lambda (lamPr p) (lamBd p1 p2 p3 p4 p5 p6 p7) lamSc lp, kp⟩] cp] qp) body [] pos :: rest) env) Q s := by
  refine wpAny_execs_cons (wpAny_If (wpAny_isTrue_Compare1 (wz (ev_loc (n := n) B hx hk hxk hxd s (.refl _) B.inv) (fun v1 s1 e1 I1 t1 => ?_)) (by with_unfolding_all rfl)))
  have B1 := B.ext e1 I1
  have h253' : s1.heap.get? 253 = some (tabObj #[]) := e1.keep.getN h253 (by decide)
  refine wpAny_bind (wz (blt_name (n := n) (s := s1) (p := sp) O (by simp) boot_sorted' (by decide) hk hxx hgl hbl (by decide) s1 (.refl _) I1) (fun u s2 e2 I2 hu => ?_))
  subst hu
  have B2 := B1.ext e2 I2
  refine callWith_kw (spliced_cons (wz (ev_loc (n := n) B2 hy hk hyk hyd s2 (.refl _) I2) (fun v2 s3 e3 I3 t3 => spliced_nil (kws_cons ?_))))
  have B3 := B2.ext e3 I3
  have h3 : s3.heap.get? 253 = some (tabObj #[]) := (e2.trans e3).keep.getN h253' (by decide)
  refine lam_make L I3 hgl hcode hcl h3 fun q s4 c' pm ctv kp4 os4 ba4 ex4 I4 hq hcd hcl' => kws_nil ?_
  have h0 : ∀ o, s3.heap.get? 253 = some o → o.cls = .none := fun o ho => by rw [h3] at ho; cases ho; rfl
  have B4 : Bd c env X₀ own Z hA os s4 σ := B3.at253 L kp4 hZ h0 (by obtain ⟨ps, e⟩ := ex4; rw [e]; rfl) ba4 os4
  have t1' : Tr s4.heap (fun a => X₀ a ∨ own a) (.lst ((orderF es0 (cards5 K z)).map cardD)) v1 := Tr.mv (mv253 kp4 h0) _ _ (t1.ext (e2.trans e3))
  have t3' : Tr s4.heap (fun a => X₀ a ∨ own a) (.lst ((cards5 K z).map cardD)) v2 := Tr.mv (mv253 kp4 h0) _ _ t3
  obtain ⟨l, us, rfl, nl, hl, tl⟩ := t3'
  have h5 : us.toList.length = 5 := by rw [tl.length]; rfl
  have g := run_order hK z
  refine sorted_five (K := K) (vs := us.toList) h5 (by omega) I4 (by rw [Array.toArray_toList]; exact hl.is) hK (fun j xv s5 hj e5 I5 => ?_) fun D s5 fD E5 I5 hD => ?_
  · have hj5 : j < 5 := by have := (List.getElem?_eq_some_iff.mp hj).1; omega
    have hdj : ((cards5 K z).map cardD)[j]? = some (cardD (cardAt K z j)) := by
      exact lt5 (P := fun j => ((cards5 K z).map cardD)[j]? = some (cardD (cardAt K z j))) rfl rfl rfl rfl rfl j hj5
    obtain ⟨w, hw, tw⟩ := tl.get hdj
    rw [hj] at hw
    cases hw
    have tw := tw.ext e5
    obtain ⟨T, ws, ew, nT, hT, tT⟩ := tw
    subst ew
    refine wpAny_mono (lam_call (n := n + 1) (by omega) (e5.keep.get hq (by intro e; cases e)) ?_ I5 ⟨T, ws, rfl, id, hT, TrL.mv (.less fun uu q => q.elim) _ _ tT⟩) (fun kv s6 h6 => h6) fun uu uu z => z
    obtain ⟨c₂, o₂, vs₂, t₂, e₂, g₂, r₂, r₃⟩ := hcd
    refine ⟨c₂, o₂, vs₂, t₂, e₂, e5.keep.getN g₂ fun hm => ?_, r₂, r₃⟩
    cases e₂
    have hm : c' = 79 ∨ c' = 86 := by simpa [tabs] using hm
    rcases hm with rfl | rfl <;> exact absurd hcl' (by decide)
  · -- the two lists are alike
    have tl5 := tl.ext E5
    have hlen : ((cards5 K z).map cardD).length = 5 := rfl
    have perm5 : ∀ i ∈ (kRun (rk (ranks K)) (kas_sort 5)).toList, i < 5 := fun i hi => by
      have g' := ranks_good hK
      unfold goodR at g'
      rw [Bool.and_eq_true, beq_iff_eq] at g'
      rw [g'.2] at hi
      have key : ∀ (cs row : List Nat), (∀ x ∈ cs, x < 5) → (∀ x ∈ row, x < 5) → ∀ x ∈ cs.foldl (insI (rk (ranks K))) row, x < 5 := by
        intro cs
        induction cs with
        | nil => intro row _ hr x hx; exact hr x hx
        | cons a cs ih =>
          intro row hc hr
          rw [List.foldl_cons]
          refine ih _ (fun y hy => hc y (List.mem_cons_of_mem _ hy)) fun y hy => ?_
          unfold insI at hy
          rcases List.mem_append.mp hy with hy | hy
          · exact hr y ((List.takeWhile_prefix _).subset hy)
          · rcases List.mem_cons.mp hy with rfl | hy
            · exact hc _ (List.mem_cons_self ..)
            · exact hr y ((List.dropWhile_suffix _).subset hy)
      exact key [0, 1, 2, 3, 4] [] (by decide) (by simp) i hi
    have tp := tl5.pick (kRun (rk (ranks K)) (kas_sort 5)).toList (by rw [hlen]; exact perm5)
    have e2 : ((kRun (rk (ranks K)) (kas_sort 5)).toList.map fun i => ((cards5 K z).map cardD).getD i .none) = (orderF es0 (cards5 K z)).map cardD := by
      show _ = (orderF es0 ([0, 1, 2, 3, 4].map fun i => ((K i).1, z i, (K i).2))).map cardD
      rw [← g.2, List.map_map]
      apply List.map_congr_left
      intro i hi
      have hi5 := perm5 i hi
      refine lt5 (P := fun i => (((cards5 K z).map cardD).getD i .none) = cardD ((fun i => ((K i).1, z i, (K i).2)) i)) rfl rfl rfl rfl rfl i hi5
    rw [e2] at tp
    have B5 := B4.ext E5 I5
    have nD : ¬ (X₀ D ∨ own D) := fun q => by have := B4.ex D q; rw [fD] at this; cases this
    have t2 : Tr s5.heap (fun a => X₀ a ∨ own a) (.lst ((orderF es0 (cards5 K z)).map cardD)) (.ref D) := ⟨D, _, rfl, nD, hD, by rw [List.toList_toArray]; exact tp⟩
    refine wz (cmp_ned (n := n) (cards_ok (orderF es0 (cards5 K z))) (cards_ok _) (by omega) _ s5 _ _ I5 (t1'.ext E5) t2) (fun v s6 e6 I6 ev => ?_)
    have hr := Mine.D.eqv_refl _ (cards_ok (orderF es0 (cards5 K z))).plain
    rw [hr] at ev
    subst ev
    refine wpAny_truthy_bool (wpAny_execs_nil ?_)
    exact h s6 (B5.ext e6 I6) (let ⟨ps, e⟩ := ex4; ⟨ps, (E5.trans e6).keep.getN e (by decide)⟩)
end
end Mine
end
section
open PySem PySem.W PySem.Calls PyProof.Rows
set_option linter.unusedVariables false
set_option maxRecDepth 100000
namespace Mine
set_option genSizeOf false
set_option genInjectivity false
set_option tactic.hygienic false
theorem ok_run : R_run.Ok ["row", "texts", "start", "longest_first"] where
  mem := inF 18 rfl
  cl := rfl
  bind := fun kV doc pm an ct vs h => by
    obtain ⟨a, b, d, e, rfl⟩ := len4 h
    rfl
  kinds := by rfl
  nodup := by decide
  cnodup := by decide
  celled := by rfl
  co := rfl
  gen := rfl
  fun_ := rfl
theorem getD_len {T : List Str} (hT : ∀ x ∈ T, x.length ≤ 400) (k : Nat) : (T.getD k "").length ≤ 400 := by
  rw [List.getD_eq_getElem?_getD]
  cases e : T[k]? with
  | none => exact Nat.le_trans (by decide +kernel : Str.length "" ≤ 0) (Nat.zero_le _)
  | some x => exact hT x (List.mem_of_getElem? e)
theorem piece_len {T : List Str} (hT : ∀ x ∈ T, x.length ≤ 400) (cd : Card) : (pieceOf T cd).1.length ≤ 1000 ∧ (pieceOf T cd).2.length ≤ 1000 := by
  have h := getD_len hT cd.2.2.toNat
  exact ⟨Nat.le_trans (Txt.slice_le _ _ _) (by omega), Nat.le_trans (Txt.slice_le _ _ _) (by omega)⟩
theorem pieces_len {T : List Str} (hT : ∀ x ∈ T, x.length ≤ 400) (ly : List Card) : ∀ p ∈ ly.map (pieceOf T), p.1.length ≤ 1000 ∧ p.2.length ≤ 1000 := fun p hp => by
  obtain ⟨cd, _, rfl⟩ := List.mem_map.mp hp
  exact piece_len hT cd
section
variable {c : Cx} {n : Nat} {env : Env} {X : Addr → Prop} {s : Shared} {pos : Pos}
theorem ev_dict0 (hX : ∀ a, X a → (s.heap.get? a).isSome = true) : EvD c n X s (eval (.Dict [] [] pos) env) (.dct []) := fun s1 k1 I1 => by
  have E1 := ext_push s1 { cls := .type "dict", data := .dict #[] }
  refine wpAny_Dict_empty ⟨E1, I1.keep E1.keep I1.bare, s1.heap.objs.size, rfl, fun q => ?_, I1.size, #[], _, 0, Heap.get?_push_size _ rfl, ⟨rfl, rfl, rfl⟩, rfl, rfl, List.nodup_nil⟩
  have := hX _ q
  rw [ext_none k1 (size_none _)] at this; cases this
end
structure RS where
  ly : List Card
  bk : Book
  seen : List Seen
  lA : Addr
  ow : Addr → Prop
noncomputable def RS.st (x : RS) : RunSt := (x.ly, x.bk, x.seen)
noncomputable abbrev pcsD (T : List Str) (ly : List Card) : List D := (ly.map (pieceOf T)).map pcD
noncomputable abbrev runσ (T : List Str) (es : List (Int × Int)) (start : Int) (a dx sA : Addr) (x : RS) : List (Str × LV) :=
  [("pile", .ac a dx (pcsD T x.ly) start), ("lying", .ls x.lA (x.ly.map cardD)), ("book", .tr (bookD x.bk)), ("seen", .ls sA (x.seen.map seenD)), ("texts", .tr (.lst (T.map D.str))), ("longest_first", .tr (.cmp es))]
noncomputable def runFor : List Stmt := match (bodyOf R_run.st)[4]? with
  | some (Stmt.For _ _ b _ _) => b
  | _ => []
noncomputable abbrev runE (L : Addr) : Env := R_run.env L (cellsFrom (L + 1) (scOf R_run.st).names [])
section
variable {c : Cx} {X₁ ow own : Addr → Prop} {hB : Heap} {os : OsState} {s : Shared} {L : Addr}
theorem pile_len {σ : List (Str × LV)} (O : c.Ok) (K : AccH c) {T : List Str} {start : Int} (h0 : 0 ≤ start) (h3 : start < 1000) (hT : ∀ x ∈ T, x.length ≤ 400) {a dx : Addr} {ly : List Card} {p1 p2 p3 : Pos} (B : Bd c (runE L) X₁ ow own hB os s σ) (h : σ.lookup ("pile" : Str) = some (.ac a dx (pcsD T ly) start)) (hl : ly.length ≤ 20) :
    EvD c 8 (fun b => X₁ b ∨ ow b) s (eval (.Call (.Name "len" p1) [.Name "pile" p2] [] p3) (runE L)) (.int (start + pcSum (ly.map (pieceOf T)))) :=
  EvD.int_any (ev_acclen (ps := ly.map (pieceOf T)) O K (fun b h => B.ex b (h.imp id fun h => h.1)) (ev_lacc_tr B h) h0 h3 (by simp; omega) (pieces_len hT ly) (by decide))
noncomputable def runIf : List Stmt := match runFor[3]? with
  | some (Stmt.If _ b _ _) => b
  | _ => []
theorem idxOf_ne (a : Card) : ∀ (l : List Card) (m : Nat) (hm : m < l.length), m < l.idxOf a → l[m] ≠ a
  | [], u1, hm, u2 => absurd hm (Nat.not_lt_zero _)
  | b :: l, m, hm, h => by
    rw [List.idxOf_cons] at h
    cases e : (b == a) with
    | true => rw [e] at h; exact absurd h (Nat.not_lt_zero _)
    | false =>
      rw [e] at h
      cases m with
      | zero => exact fun q => by rw [show b = a from q, beq_self_eq_true] at e; cases e
      | succ m => exact idxOf_ne a l m (by simpa using hm) (by simpa using h)
noncomputable abbrev lateσ (T : List Str) (es : List (Int × Int)) (start ov : Int) (card late : Card) (place : Nat) (a dx sA : Addr) (x : RS) (y : List D) : List (Str × LV) :=
  [("place", .tr (.int place)), ("late", .tr (cardD late)), ("over", .tr (.int ov)), ("card", .tr (cardD card)), ("pile", .ac a dx y start), ("lying", .ls x.lA (x.ly.map cardD)), ("book", .tr (bookD x.bk)), ("seen", .ls sA (x.seen.map seenD)), ("texts", .tr (.lst (T.map D.str))), ("longest_first", .tr (.cmp es))]
theorem run_late3 {T : List Str} {es : List (Int × Int)} {start ov : Int} {a dx sA : Addr} {x : RS} {card late : Card} {place : Nat} {Q : Flow → Shared → Prop} (O : c.Ok) (hl : x.ly.length ≤ 20) (hb : x.bk.2.2.2.2.length ≤ 100) (hp : place < x.ly.length)
    (B : Bd c (runE L) X₁ x.ow own hB os s (lateσ T es start ov card late place a dx sA x (pcsD T (x.ly.take place ++ x.ly.drop (place + 1)))))
    (h : ∀ s' r, r ≠ sA → r ≠ a → r ≠ dx → Bd c (runE L) X₁ (fun b => x.ow b ∨ b = r) own hB os s' (("card", .tr (cardD card)) :: runσ T es start a dx sA { x with ly := x.ly.take place ++ x.ly.drop (place + 1), bk := statsF x.bk (1, late.2.1, ov, card.1, [(late.2.1, 1)]), lA := r, ow := fun b => x.ow b ∨ b = r }) → Q .next s') :
    W c 8 (execs (runIf.drop 4) (runE L)) Q s := by
  refine st_live (ds := (x.ly.take place).map cardD ++ (x.ly.drop (place + 1)).map cardD) B (evn_ladd B.ex
      (ev_as (EvN.tr (evn_slice_live (i := none) (j := some place) B rfl evpt_none (evpt_some (X := fun b => X₁ b ∨ x.ow b) (ev_loc B rfl)) (fun uu e => by cases e) (fun uu uu e => by cases e) (by simp; omega)) B.ex) ?_)
      (ev_as (EvN.tr (evn_slice_live (i := some (place + 1)) (j := none) B rfl (evpt_some (X := fun b => X₁ b ∨ x.ow b) (ev_as (ev_bin B.ex (ev_loc B rfl) ev_int bin_add) ?_)) evpt_none (fun b e => by cases e; simp; omega) (fun uu uu uu e => by cases e) (by simp; omega)) B.ex) ?_) (by simp; omega)) fun r s6 nr nx B6 => ?_
  · show D.lst ((x.ly.map cardD).take place) = _
    rw [List.map_take]
  · rfl
  · show D.lst ((x.ly.map cardD).drop (place + 1)) = _
    rw [List.map_drop]
  have oa := (B.lacc (x := "pile") (a := a) (dx := dx) rfl)
  have os := (B.live (x := "seen") (a := sA) rfl)
  refine st_assign (d := bookD (statsF x.bk (1, late.2.1, ov, card.1, [(late.2.1, 1)]))) B6 (ev_callN (f := R_stats) (ds := [bookD x.bk, bookD (1, late.2.1, ov, card.1, [(late.2.1, 1)])]) B6.ex (ev_fn O B6.inv (inF 1 rfl) rfl) (inF 10 rfl) (stats_fn O _ _ (by simp; omega)) (.cons (ev_loc B6 rfl) (.cons (ev_tup B6.ex (.cons ev_int (.cons (ev_item_tup (j := 1) (ev_loc (d := cardD late) B6 rfl) ev_int (by decide) (by decide) rfl rfl) (.cons (ev_loc B6 rfl) (.cons (ev_item_tup (j := 0) (ev_loc (d := cardD card) B6 rfl) ev_int (by decide) (by decide) rfl rfl) (.cons (ev_dict1 B6.ex (ev_item_tup (j := 1) (ev_loc (d := cardD late) B6 rfl) ev_int (by decide) (by decide) rfl rfl) ev_int) .nil)))))) .nil))) fun s7 B7 => st_nil ?_
  refine h s7 r (fun q => nr (q ▸ os.1)) (fun q => nr (q ▸ oa.1)) (fun q => nr (q ▸ oa.2.1)) (B7.pick ?_)
  refine al ?_ (al ?_ (al ?_ (al ?_ (al ?_ (al ?_ (al ?_ al0))))))
  · rfl
  · rfl
  · show _ = some (LV.ls r ((x.ly.take _ ++ x.ly.drop _).map cardD))
    rw [List.map_append]; rfl
  · rfl
  · rfl
  · rfl
  · rfl
theorem run_late2 {T : List Str} {es : List (Int × Int)} {start ov : Int} {a dx sA : Addr} {x : RS} {card late : Card} {place : Nat} {Q : Flow → Shared → Prop} (O : c.Ok) (K : AccH c) (hl : x.ly.length ≤ 20) (hb : x.bk.2.2.2.2.length ≤ 100) (hp : place < x.ly.length) (n2 : x.lA ∉ [a, dx]) (n3 : sA ∉ [a, dx])
    (B : Bd c (runE L) X₁ x.ow own hB os s (("taken", .tr (.lst (pcsD T (x.ly.drop place)))) :: lateσ T es start ov card late place a dx sA x (pcsD T (x.ly.take place))))
    (h : ∀ s', Bd c (runE L) X₁ x.ow own hB os s' (lateσ T es start ov card late place a dx sA x (pcsD T (x.ly.take place ++ x.ly.drop (place + 1)))) → W c 8 (execs (runIf.drop 4) (runE L)) Q s') :
    W c 8 (execs (runIf.drop 3) (runE L)) Q s := by
  refine st_for (ds := pcsD T (x.ly.drop (place + 1))) (fun _ : List Card => x.ow) (fun y => lateσ T es start ov card late place a dx sA x (pcsD T y))
    (fun rest y => ∃ r, rest = pcsD T r ∧ y ++ r = x.ly.take place ++ x.ly.drop (place + 1))
    (x.ly.take place) (fun d => False) B (ei_list (ev_as (EvN.tr (evn_slice_tr (i := some 1) (j := none) (ev_loc (d := .lst (pcsD T (x.ly.drop place))) B rfl) (evpt_some (X := fun uu => False) ev_int) evpt_none (fun b e => by cases e; simp; omega) (fun uu uu uu e => by cases e) (by simp; omega)) B.ex) ?_)) ⟨_, rfl, rfl⟩ rfl ?_ ?_ ?_ ?_
  · show D.lst ((pcsD T (x.ly.drop place)).drop 1) = _
    unfold pcsD
    rw [← List.map_drop, ← List.map_drop, List.drop_drop]
  · exact (pk rfl (pk rfl (pk rfl (pk rfl (pk rfl (pk rfl (pk rfl (pk rfl (pk rfl (pk rfl pk0))))))))))
  · intro Q₂ d rest y X₂ hB2 s5 hQ hR zp B5 v tv
    obtain ⟨r, hr5, hy⟩ := zp
    cases r with
    | nil => cases hr5
    | cons cd r =>
    injection hr5 with h1 h2
    subst h1
    have yl : y.length + (r.length + 1) ≤ 20 := by
      have := congrArg List.length hy
      simp only [List.length_append, List.length_cons, List.length_take, List.length_drop] at this
      omega
    refine use_name B5 tv fun s6 B6 => ?_
    refine st_push (d1 := .str (pieceOf T cd).1) (d2 := .str (pieceOf T cd).2) K.toAccS B6 rfl (ev_item_tup (j := 0) (ev_loc (d := pcD (pieceOf T cd)) B6 rfl) ev_int (by decide) (by decide) rfl rfl) (ev_item_tup (j := 1) (ev_loc (d := pcD (pieceOf T cd)) B6 rfl) ev_int (by decide) (by decide) rfl rfl) (by simp; omega) (by decide) ?_ fun s7 B7 => st_nil ?_
    · refine hap_list fun p hp => ?_
      simp only [List.mem_cons, List.not_mem_nil, or_false] at hp
      rcases hp with rfl | rfl | rfl | rfl | rfl | rfl | rfl | rfl | rfl | rfl | rfl
      · exact .inr fun b hb => nomatch hb
      · exact .inr fun b hb => nomatch hb
      · exact .inr fun b hb => nomatch hb
      · exact .inr fun b hb => nomatch hb
      · exact .inr fun b hb => nomatch hb
      · exact .inl rfl
      · exact .inr (good_ls n2)
      · exact .inr fun b hb => nomatch hb
      · exact .inr (good_ls n3)
      · exact .inr fun b hb => nomatch hb
      · exact .inr fun b hb => nomatch hb
    · refine hQ (y ++ [cd]) _ ⟨r, h2, by rw [List.append_assoc]; exact hy⟩ (B7.pick ?_)
      have ey : pcsD T (y ++ [cd]) = pcsD T y ++ [.tup [.str (pieceOf T cd).1, .str (pieceOf T cd).2]] := by
        unfold pcsD; rw [List.map_append, List.map_append]; rfl
      refine al ?_ (al ?_ (al ?_ (al ?_ (al ?_ (al ?_ (al ?_ (al ?_ (al ?_ (al ?_ al0)))))))))
      · rfl
      · rfl
      · rfl
      · rfl
      · rw [ey]; rfl
      · rfl
      · rfl
      · rfl
      · rfl
      · rfl
  · intro y s5 zp B5
    obtain ⟨r, hr5, hy⟩ := zp
    have hr5 : r = [] := by cases r with | nil => rfl | cons _ _ => cases hr5
    subst hr5
    rw [List.append_nil] at hy
    subst hy
    exact h s5 B5
  · intro d v s' hd
    exact hd.elim
theorem run_late {T : List Str} {es : List (Int × Int)} {start ov : Int} {a dx sA : Addr} {x : RS} {card : Card} {Q : Flow → Shared → Prop} (O : c.Ok) (K : AccH c) (hes : ∀ p ∈ es, p.1 = 0 ∨ p.1 = 1 ∨ p.1 = 2) (hl : x.ly.length ≤ 20) (hne : x.ly ≠ []) (hb : x.bk.2.2.2.2.length ≤ 100)
    (n2 : x.lA ∉ [a, dx]) (n3 : sA ∉ [a, dx])
    (B : Bd c (runE L) X₁ x.ow own hB os s (("over", .tr (.int ov)) :: ("card", .tr (cardD card)) :: runσ T es start a dx sA x))
    (h : ∀ s' r, r ≠ sA → r ≠ a → r ≠ dx → Bd c (runE L) X₁ (fun b => x.ow b ∨ b = r) own hB os s' (("card", .tr (cardD card)) :: runσ T es start a dx sA { x with ly := x.ly.take (placeOf es x.ly) ++ x.ly.drop (placeOf es x.ly + 1), bk := statsF x.bk (1, (lateOf es x.ly).2.1, ov, card.1, [((lateOf es x.ly).2.1, 1)]), lA := r, ow := fun b => x.ow b ∨ b = r }) → Q .next s') :
    W c 8 (execs runIf (runE L)) Q s := by
  have hp := placeOf_lt es hne
  have hg := placeOf_get es hne
  have X' : ∀ b, X₁ b ∨ (x.ow b ∧ b ∉ [x.lA]) → (s.heap.get? b).isSome = true := fun b q => B.ex b (q.imp id fun q => q.1)
  refine st_assign (d := cardD (lateOf es x.ly)) B (EvD.card_up (x := "lying") (a := x.lA) (ds := x.ly.map cardD) ?_ B rfl) fun s1 B1 => ?_
  · refine ev_item_lst (i := 0) (ev_callN (f := R_order) (ds := [.cmp es, .lst (x.ly.map cardD)]) X' (ev_fn O B.inv (inF 8 rfl) rfl) (inF 17 rfl) (Fn.weak (order_fn O es hes x.ly (by omega)) (by decide)) (.cons ((ev_loc B rfl).less fun b q => q.imp id fun q => q.1) (.cons (ev_lst_tr B rfl) .nil))) ev_int (by decide) (by decide) ?_
    show ((orderF es x.ly).map cardD)[0]? = _
    rw [List.getElem?_map, (lateOf_mem es hne).2]; rfl
  refine st_assign (d := .int (placeOf es x.ly : Nat)) B1 (ev_index (d := cardD (lateOf es x.ly)) B1 rfl (ev_loc B1 rfl) (cards_ok _) ⟨rfl, (by decide : (1 : Nat) ≤ 60)⟩ (by decide) (by rw [List.length_map]; exact hp) (by rw [List.length_map]; omega) ?_ ?_) fun s2 B2 => ?_
  · rw [List.getElem_map, cards_eqv, hg]; simp
  · intro m hm hlt
    rw [List.getElem_map, cards_eqv, decide_eq_false_iff_not]
    exact idxOf_ne _ x.ly m (by simpa using hm) hlt
  refine st_popf (i := placeOf es x.ly) K.toAccP B2 rfl (ev_loc B2 rfl) (by simp; omega) (by simp; omega) (by decide) ?_ fun s3 B3 => ?_
  · refine hap_list fun p hp => ?_
    simp only [List.mem_cons, List.not_mem_nil, or_false] at hp
    rcases hp with rfl | rfl | rfl | rfl | rfl | rfl | rfl | rfl | rfl | rfl
    · exact .inr fun b hb => nomatch hb
    · exact .inr fun b hb => nomatch hb
    · exact .inr fun b hb => nomatch hb
    · exact .inr fun b hb => nomatch hb
    · exact .inl rfl
    · exact .inr (good_ls n2)
    · exact .inr fun b hb => nomatch hb
    · exact .inr (good_ls n3)
    · exact .inr fun b hb => nomatch hb
    · exact .inr fun b hb => nomatch hb
  have e0 : (pcsD T x.ly).drop (placeOf es x.ly) = pcsD T (x.ly.drop (placeOf es x.ly)) := by unfold pcsD; rw [List.map_drop, List.map_drop]
  have e1 : (pcsD T x.ly).take (placeOf es x.ly) = pcsD T (x.ly.take (placeOf es x.ly)) := by unfold pcsD; rw [List.map_take, List.map_take]
  rw [e0, e1] at B3
  refine run_late2 (card := card) (late := lateOf es x.ly) (place := placeOf es x.ly) O K hl hb hp n2 n3 (B3.pick ?_) fun s4 B4 => run_late3 O hl hb hp B4 h
  exact (pk rfl (pk rfl (pk rfl (pk rfl (pk rfl (pk rfl (pk rfl (pk rfl (pk rfl (pk rfl (pk rfl pk0)))))))))))
theorem run_seen {T : List Str} {es : List (Int × Int)} {start : Int} {a dx sA : Addr} {x : RS} {card : Card} {Q : Flow → Shared → Prop} (O : c.Ok) (K : AccH c) (h0 : 0 ≤ start) (h3 : start < 1000) (hT : ∀ x ∈ T, x.length ≤ 400) (hl : x.ly.length ≤ 20) (hse : x.seen.length ≤ 100) (hne : x.lA ≠ sA)
    (B : Bd c (runE L) X₁ x.ow own hB os s (("card", .tr (cardD card)) :: runσ T es start a dx sA x))
    (h : ∀ s', Bd c (runE L) X₁ x.ow own hB os s' (runσ T es start a dx sA { x with seen := x.seen ++ [seenOf T start x.ly] }) → Q .next s') : W c 8 (execs (runFor.drop 4) (runE L)) Q s := by
  refine st_append (d := seenD (seenOf T start x.ly)) B rfl ?_ (by simp; omega) (hap_of2 (z := "lying") rfl fun b es h => by cases h; exact hne) fun s1 B1 => st_nil (h s1 (B1.pick ?_))
  · refine ev_tup B.ex (.cons (EvD.int_any (ev_as (ev_part O K.toAccU (fun b h => B.ex b (h.imp id fun h => h.1)) (ev_lacc_tr B rfl) (by simp; omega) (by decide)) (by simp [seenOf]))) (.cons (pile_len O K h0 h3 hT B rfl hl) (.cons ?_ .nil)))
    have BA := B.lessA (x := "pile") (a := a) (dx := dx) (ds := pcsD T x.ly) (i0 := start) rfl
    refine (evn_sorted O (ns := x.ly.map fun cd => pcLen (pieceOf T cd)) ?_ (by simp; omega)).tr B.ex
    have hnn : ((x.ly.map (pieceOf T)).map pcLen) = x.ly.map fun cd => pcLen (pieceOf T cd) := by rw [List.map_map]; rfl
    refine EvN.ints (X := fun b => X₁ b ∨ (x.ow b ∧ b ∉ [a, dx])) ?_ B.ex
    rw [← hnn, ← pcs_filter]
    refine evn_comp (cl := []) [] _ BA ?_ (ec_acc K.toAccT (ev_lacc_tr B rfl)) (fun C q hq => nomatch hq) ?_ (by simp; omega)
    · exact {
        clos := rfl
        cell := by decide
        kind := rfl
        names := by decide
        clAt := fun p hp => nomatch hp
        has := by rfl
        apart := List.Pairwise.nil }
    · intro C d hd
      obtain ⟨p, hp, rfl⟩ := List.mem_map.mp hd
      obtain ⟨q1, q2⟩ := pieces_len hT x.ly p hp
      exact ⟨_, asg2_tuple (xs := ["white", "part"]) (ds := [.str p.1, .str p.2]) rfl rfl rfl rfl, fun X₂ own₂ hB' s' B' => ⟨true, tests_nil, (fun h => nomatch h), fun hb => ⟨.int ((p.1.length : Int) + (p.2.length : Int)), rfl, ev_bin B'.ex (ev_lenS O (ev_loc B' rfl) (by omega)) (ev_lenS O (ev_loc B' rfl) (by omega)) bin_add⟩⟩⟩
  · refine al ?_ (al ?_ (al ?_ (al ?_ (al ?_ (al ?_ al0)))))
    · rfl
    · rfl
    · rfl
    · show _ = some (LV.ls sA ((x.seen ++ [seenOf T start x.ly]).map seenD))
      rw [List.map_append]; rfl
    · rfl
    · rfl
end
theorem run_fn {c : Cx} (O : c.Ok) (K : AccH c) (T : List Str) (es : List (Int × Int)) (hes : ∀ p ∈ es, p.1 = 0 ∨ p.1 = 1 ∨ p.1 = 2) (start : Int) (h0 : 0 ≤ start) (h3 : start < 1000) (hT : ∀ x ∈ T, x.length ≤ 400) (row : List Card) (hr : row.length ≤ 20) (hi : ∀ cd ∈ row, 0 ≤ cd.2.2 ∧ cd.2.2 < T.length) (hTl : T.length ≤ 100) :
    Fn c 7 (.ref 234) [.lst (row.map cardD), .lst (T.map D.str), .int start, .cmp es] (.tup [.acc (pcsD T (runF T es start row).1) start, .lst ((runF T es start row).1.map cardD), bookD (runF T es start row).2.1, .lst ((runF T es start row).2.2.map seenD)]) := by
  refine Fn.intro (f := R_run) ok_run rfl (by decide) fun X₀ own s₀ s L cells hc B => ?_
  subst hc
  refine st_newacc (i0 := start) O K.toAccM B (ev_loc B rfl) (by decide) fun a dx s1 na nd nad B1 => ?_
  refine st_live B1 (evn_lst .nil) fun lA s2 nl nlx B2 => ?_
  refine st_assign (d := .tup [.int 0, .int 0, .int 0, .int 0, .dct []]) B2 (ev_tup B2.ex (.cons ev_int (.cons ev_int (.cons ev_int (.cons ev_int (.cons (ev_dict0 B2.ex) .nil)))))) fun s3 B3 => ?_
  refine st_live B3 (evn_lst .nil) fun sA s4 ns nsx B4 => ?_
  have nlA : lA ≠ a ∧ lA ≠ dx := ⟨fun q => nl (.inr (.inl q)), fun q => nl (.inr (.inr q))⟩
  have nsA : sA ≠ a ∧ sA ≠ dx ∧ sA ≠ lA := ⟨fun q => ns (.inl (.inr (.inl q))), fun q => ns (.inl (.inr (.inr q))), fun q => ns (.inr q)⟩
  refine st_for (ds := row.map cardD) (fun x : RS => x.ow) (runσ T es start a dx sA)
    (fun rest x => ∃ r, rest = r.map cardD ∧ runF T es start row = r.foldl (runStep T es start) x.st ∧ (∀ cd ∈ r, 0 ≤ cd.2.2 ∧ cd.2.2 < (T.length : Int)) ∧ x.ly.length + r.length ≤ 20 ∧ x.bk.2.2.2.2.length + r.length ≤ 100 ∧ x.seen.length + r.length ≤ 100 ∧ x.lA ≠ sA ∧ x.lA ≠ a ∧ x.lA ≠ dx)
    ⟨[], (0, 0, 0, 0, []), [], lA, fun b => ((own b ∨ b = a ∨ b = dx) ∨ b = lA) ∨ b = sA⟩ (fun d => False)
    B4 (ei_list (ev_loc B4 rfl)) ⟨row, rfl, rfl, hi, by simpa using hr, by simp; omega, by simp; omega, Ne.symm nsA.2.2, nlA.1, nlA.2⟩ rfl ?_ ?_ ?_ ?_
  · exact (pk rfl (pk rfl (pk rfl (pk rfl (pk rfl (pk rfl pk0))))))
  · intro Q' d rest x X₁ hB s5 hQ hR zp B5 v tv
    obtain ⟨r, hr5, hf, hid, l1, l2, l3, x1, x2, x3⟩ := zp
    cases r with
    | nil => cases hr5
    | cons card r =>
    injection hr5 with h1 h2
    subst h1
    simp only [List.length_cons] at l1 l2 l3
    refine use_name B5 tv fun s6 B6 => ?_
    obtain ⟨i0, i1⟩ := hid card (List.mem_cons_self ..)
    have gl : x.lA ∉ [a, dx] := by simp [x2, x3]
    have gs : sA ∉ [a, dx] := by simp [nsA.1, nsA.2.1]
    have hTi : (T.map D.str)[(card.2.2).toNat]? = some (.str (T.getD card.2.2.toNat "")) := by
      rw [List.getElem?_map, List.getElem?_eq_getElem (by omega), List.getD_eq_getElem?_getD, List.getElem?_eq_getElem (by omega)]; rfl
    have txt : ∀ {s : Shared} {σ : List (Str × LV)} {n : Nat} {p1 p2 p3 p4 p5 : Pos}, Bd c (R_run.env L (cellsFrom (L + 1) (scOf R_run.st).names [])) X₁ x.ow x.ow hB s₀.os s σ → σ.lookup ("texts" : Str) = some (.tr (.lst (T.map D.str))) → σ.lookup ("card" : Str) = some (.tr (cardD card)) →
        EvD c 8 (fun b => X₁ b ∨ x.ow b) s (eval (.Subscript (.Name "texts" p1) (.Subscript (.Name "card" p2) (.Constant (.int 2) n p3) p4) p5) (R_run.env L (cellsFrom (L + 1) (scOf R_run.st).names []))) (.str (T.getD card.2.2.toNat "")) := fun B h1 h2 =>
      ev_item_lst (i := card.2.2) (ev_loc B h1) (ev_item_tup (j := 2) (ev_loc (d := cardD card) B h2) ev_int (by decide) (by decide) rfl rfl) i0 (by omega) hTi
    have hlen := getD_len hT card.2.2.toNat
    refine st_push K.toAccS B6 rfl (ev_ssliceT (txt B6 rfl rfl) evp_none (evp_some (X := fun uu => False) ev_int) (by omega)) (ev_ssliceT (txt B6 rfl rfl) (evp_some (X := fun uu => False) ev_int) evp_none (by omega)) (by simp; omega) (by decide) ?_ fun s7 B7 => ?_
    · refine hap_list fun p hp => ?_
      simp only [List.mem_cons, List.not_mem_nil, or_false] at hp
      rcases hp with rfl | rfl | rfl | rfl | rfl | rfl | rfl
      · exact .inr fun b hb => nomatch hb
      · exact .inl rfl
      · exact .inr (good_ls gl)
      · exact .inr fun b hb => nomatch hb
      · exact .inr (good_ls gs)
      · exact .inr fun b hb => nomatch hb
      · exact .inr fun b hb => nomatch hb
    refine st_append (d := cardD card) B7 rfl (ev_loc B7 rfl) (by simp; omega) (hap_of2 (z := "seen") rfl fun b es h => by cases h; exact Ne.symm x1) fun s8 B8 => ?_
    have B9 : Bd c (R_run.env L (cellsFrom (L + 1) (scOf R_run.st).names [])) X₁ x.ow x.ow hB s₀.os s8 (("card", .tr (cardD card)) :: runσ T es start a dx sA { x with ly := x.ly ++ [card] }) := B8.pick (by
      have e1 : pcsD T (x.ly ++ [card]) = pcsD T x.ly ++ [.tup [.str (pieceOf T card).1, .str (pieceOf T card).2]] := by
        unfold pcsD; rw [List.map_append, List.map_append]; rfl
      have e2 : (x.ly ++ [card]).map cardD = x.ly.map cardD ++ [cardD card] := by rw [List.map_append]; rfl
      refine al ?_ (al ?_ (al ?_ (al ?_ (al ?_ (al ?_ (al ?_ al0))))))
      · rfl
      · rw [e1]; rfl
      · rw [e2]; rfl
      · rfl
      · rfl
      · rfl
      · rfl)
    clear B8 B7 B6 B5
    generalize hly : x.ly ++ [card] = ly at B9
    have lyl : ly.length + r.length ≤ 20 := by rw [← hly]; simp; omega
    have lyne : ly ≠ [] := by rw [← hly]; simp
    have pl := pieces_len hT ly
    have acl : ∀ {s : Shared} {σ : List (Str × LV)} {ow : Addr → Prop} {ly : List Card} {p1 p2 p3 : Pos}, Bd c (R_run.env L (cellsFrom (L + 1) (scOf R_run.st).names [])) X₁ ow x.ow hB s₀.os s σ → σ.lookup ("pile" : Str) = some (.ac a dx (pcsD T ly) start) → ly.length ≤ 20 →
        EvD c 8 (fun b => X₁ b ∨ ow b) s (eval (.Call (.Name "len" p1) [.Name "pile" p2] [] p3) (R_run.env L (cellsFrom (L + 1) (scOf R_run.st).names []))) (.int (start + pcSum (ly.map (pieceOf T)))) := fun {s σ ow ly p1 p2 p3} B h hl =>
      EvD.int_any (ev_acclen (ps := ly.map (pieceOf T)) O K (fun b h => B.ex b (h.imp id fun h => h.1)) (ev_lacc_tr B h) h0 h3 (by simp; omega) (pieces_len hT ly) (by decide))
    refine st_assign (d := .int (overOf T start ly card)) B9 (ev_bin B9.ex (acl B9 rfl (by show ly.length ≤ 20; omega)) (ev_item_tup (j := 0) (ev_loc (d := cardD card) B9 rfl) ev_int (by decide) (by decide) rfl rfl) bin_sub) fun s10 B10 => ?_
    have hx1 : x.lA ∉ [a, dx] := gl
    have stp : ∀ l b, l = lyStep T es start ly card → b = bkStep T es start ly card x.bk → runF T es start row = r.foldl (runStep T es start) (l, b, x.seen ++ [seenOf T start l]) := fun l b h1 h2 => by
      subst h1 h2
      rw [hf, List.foldl_cons]
      subst hly
      rfl
    have ll : ∀ l, l = lyStep T es start ly card → l.length + r.length ≤ 20 := fun l h1 => by
      have := lyStep_len T es start ly card
      subst h1; omega
    have bl : ∀ b, b = bkStep T es start ly card x.bk → b.2.2.2.2.length + r.length ≤ 100 := fun b h1 => by
      have := bkStep_len T es start ly card x.bk
      subst h1; omega
    have hid' : ∀ cd ∈ r, 0 ≤ cd.2.2 ∧ cd.2.2 < (T.length : Int) := fun cd q => hid cd (List.mem_cons_of_mem _ q)
    refine st_if (b := decide (0 < overOf T start ly card)) B10.inv (ev_test (ev_loc B10 rfl) ev_int cmp_gt) (fun hb s11 E11 I11 => ?_) (fun hb s11 E11 I11 => ?_)
    · have hb : 0 < overOf T start ly card := of_decide_eq_true hb
      have e1 : ly.take (placeOf es ly) ++ ly.drop (placeOf es ly + 1) = lyStep T es start ly card := by unfold lyStep; rw [if_pos hb]
      have e2 : statsF x.bk (1, (lateOf es ly).2.1, overOf T start ly card, card.1, [((lateOf es ly).2.1, 1)]) = bkStep T es start ly card x.bk := by unfold bkStep; rw [if_pos hb]
      have l4 := ll _ e1
      refine run_late (x := { x with ly := ly }) (ov := overOf T start ly card) O K hes (by show ly.length ≤ 20; omega) lyne (by show x.bk.2.2.2.2.length ≤ 100; omega) gl gs (B10.ext E11 I11) fun s12 q n1 n2 n3 B12 => ?_
      refine run_seen (x := { x with ly := ly.take (placeOf es ly) ++ ly.drop (placeOf es ly + 1), bk := statsF x.bk (1, (lateOf es ly).2.1, overOf T start ly card, card.1, [((lateOf es ly).2.1, 1)]), lA := q, ow := fun b => x.ow b ∨ b = q }) O K h0 h3 hT (by show List.length (ly.take (placeOf es ly) ++ ly.drop (placeOf es ly + 1)) ≤ 20; omega) (by show x.seen.length ≤ 100; omega) n1 B12 fun s13 B13 => ?_
      exact hQ { x with ly := ly.take (placeOf es ly) ++ ly.drop (placeOf es ly + 1), bk := statsF x.bk (1, (lateOf es ly).2.1, overOf T start ly card, card.1, [((lateOf es ly).2.1, 1)]), lA := q, ow := fun b => x.ow b ∨ b = q, seen := x.seen ++ [seenOf T start (ly.take (placeOf es ly) ++ ly.drop (placeOf es ly + 1))] } _ ⟨r, h2, stp _ _ e1 e2, hid', l4, bl _ e2, by simp; omega, n1, n2, n3⟩ B13
    · have hb : ¬ 0 < overOf T start ly card := of_decide_eq_false hb
      have e1 : ly = lyStep T es start ly card := by unfold lyStep; rw [if_neg hb]
      have e2 : x.bk = bkStep T es start ly card x.bk := by unfold bkStep; rw [if_neg hb]
      have l4 := ll _ e1
      refine st_nil ?_
      refine run_seen (x := { x with ly := ly }) (card := card) (a := a) (dx := dx) (es := es) O K h0 h3 hT (by show ly.length ≤ 20; omega) (by show x.seen.length ≤ 100; omega) x1 ((B10.ext E11 I11).pick ?_) fun s13 B13 => ?_
      · exact (pk rfl (pk rfl (pk rfl (pk rfl (pk rfl (pk rfl (pk rfl pk0)))))))
      exact hQ { x with ly := ly, seen := x.seen ++ [seenOf T start ly] } _ ⟨r, h2, stp _ _ e1 e2, hid', l4, bl _ e2, by simp; omega, x1, x2, x3⟩ B13
  · intro x s5 zp B5
    obtain ⟨r, hr5, hf, _⟩ := zp
    have hr5 : r = [] := by cases r with | nil => rfl | cons _ _ => cases hr5
    subst hr5
    have hf : runF T es start row = x.st := hf
    refine st_ret (d := .tup [.acc (pcsD T (runF T es start row).1) start, .lst ((runF T es start row).1.map cardD), bookD (runF T es start row).2.1, .lst ((runF T es start row).2.2.map seenD)]) B5 ?_ fun uu uu z => z
    rw [hf]
    exact ev_tup (fun b h => B5.ex b (.inl h)) (.cons ((ev_lacc_tr B5 rfl).less fun b h => .inl h) (.cons (ev_freeze B5 rfl) (.cons ((ev_loc B5 rfl).less fun b h => .inl h) (.cons (ev_freeze B5 rfl) .nil))))
  · intro d v s' hd
    exact hd.elim
end Mine
end
section
set_option linter.unusedVariables false
namespace Mine
set_option genSizeOf false
set_option genInjectivity false
theorem fm_congr {α β : Type} {f g : α → Option β} : ∀ {l : List α}, (∀ x ∈ l, f x = g x) → l.filterMap f = l.filterMap g
  | [], u1 => rfl
  | x :: l, h => by
    rw [List.filterMap_cons, List.filterMap_cons, h x (List.mem_cons_self ..), fm_congr fun y hy => h y (List.mem_cons_of_mem _ hy)]
noncomputable def preL (start : Int) (l : List Int) : List Int := (List.range (l.length + 1)).map fun m => start + (l.take m).sum
theorem preL_len (start : Int) (l : List Int) : (preL start l).length = l.length + 1 := by simp [preL]
theorem preL_get {start : Int} {l : List Int} {m : Nat} (h : m ≤ l.length) : (preL start l)[m]? = some (start + (l.take m).sum) := by
  unfold preL
  rw [List.getElem?_map, List.getElem?_range (by omega)]; rfl
theorem preL_none {start : Int} {l : List Int} {m : Nat} (h : l.length < m) : (preL start l)[m]? = none := by
  exact List.getElem?_eq_none (by rw [preL_len]; omega)
theorem preL_some {start : Int} {l : List Int} {m : Nat} {v : Int} (h : (preL start l)[m]? = some v) : m ≤ l.length ∧ v = start + (l.take m).sum := by
  have hm : m ≤ l.length := by
    apply Nat.le_of_not_lt; intro q; rw [preL_none q] at h; cases h
  rw [preL_get hm] at h
  exact ⟨hm, (Option.some.inj h).symm⟩

structure GoodT (best : List Int) (C : List (Nat × Int)) : Prop where
  low : ∀ p ∈ C, ∃ v, best[p.1]? = some v ∧ v ≤ p.2
  hit : ∀ m v, best[m]? = some v → (m, v) ∈ C
theorem GoodT.unique {b b' : List Int} {C : List (Nat × Int)} (x : GoodT b C) (y : GoodT b' C) : b = b' := by
  apply List.ext_getElem?
  intro m
  cases e : b[m]? with
  | some v =>
    obtain ⟨v', h1, h2⟩ := y.low _ (x.hit m v e)
    obtain ⟨v'', h3, h4⟩ := x.low _ (y.hit m v' h1)
    have h3 : b[m]? = some v'' := h3
    have h1 : b'[m]? = some v' := h1
    rw [e] at h3; cases h3
    rw [h1]; congr 1
    have h2 : v' ≤ v := h2
    have h4 : v ≤ v' := h4
    omega
  | none =>
    cases e' : b'[m]? with
    | none => rfl
    | some v' =>
      obtain ⟨v, h1, _⟩ := x.low _ (y.hit m v' e')
      have h1 : b[m]? = some v := h1
      rw [e] at h1; cases h1
noncomputable def upd (best : List Int) (m : Nat) (h : Int) : List Int := if m = best.length then best ++ [h] else if h < best.getD m 0 then best.set m h else best
theorem upd_good {best : List Int} {C : List (Nat × Int)} {m : Nat} {h : Int} (G : GoodT best C) (hm : m ≤ best.length) : GoodT (upd best m h) (C ++ [(m, h)]) := by
  unfold upd
  by_cases e : m = best.length
  · rw [if_pos e]
    constructor
    · intro p hp
      rcases List.mem_append.mp hp with hp | hp
      · obtain ⟨v, h1, h2⟩ := G.low p hp
        exact ⟨v, by rw [List.getElem?_append_left (by have := (List.getElem?_eq_some_iff.mp h1).1; exact this)]; exact h1, h2⟩
      · have hp : p = (m, h) := by simpa using hp
        subst hp
        exact ⟨h, by show (best ++ [h])[m]? = _; rw [e]; simp, Int.le_refl _⟩
    · intro j v hj
      by_cases q : j < best.length
      · rw [List.getElem?_append_left q] at hj
        exact List.mem_append_left _ (G.hit j v hj)
      · by_cases q2 : j = best.length
        · subst q2
          have : h = v := by simpa using hj
          subst this
          rw [e]; simp
        · rw [List.getElem?_eq_none (by simp; omega)] at hj; cases hj
  · rw [if_neg e]
    have hlt : m < best.length := by omega
    have hg : best[m]? = some best[m] := List.getElem?_eq_getElem hlt
    have hd : best.getD m 0 = best[m] := by rw [List.getD_eq_getElem?_getD, hg]; rfl
    by_cases q : h < best.getD m 0
    · rw [if_pos q]
      rw [hd] at q
      constructor
      · intro p hp
        rcases List.mem_append.mp hp with hp | hp
        · obtain ⟨v, h1, h2⟩ := G.low p hp
          by_cases z : p.1 = m
          · refine ⟨h, by rw [z, List.getElem?_set_self hlt], ?_⟩
            rw [z, hg] at h1
            have := Option.some.inj h1
            omega
          · exact ⟨v, by rw [List.getElem?_set_ne (Ne.symm z)]; exact h1, h2⟩
        · have hp : p = (m, h) := by simpa using hp
          subst hp
          exact ⟨h, List.getElem?_set_self hlt, Int.le_refl _⟩
      · intro j v hj
        by_cases z : j = m
        · subst z
          rw [List.getElem?_set_self hlt] at hj
          have := Option.some.inj hj
          subst this
          simp
        · rw [List.getElem?_set_ne (Ne.symm z)] at hj
          exact List.mem_append_left _ (G.hit j v hj)
    · rw [if_neg q]
      rw [hd] at q
      constructor
      · intro p hp
        rcases List.mem_append.mp hp with hp | hp
        · exact G.low p hp
        · have hp : p = (m, h) := by simpa using hp
          subst hp
          exact ⟨best[m], hg, by omega⟩
      · intro j v hj
        exact List.mem_append_left _ (G.hit j v hj)
theorem upd_len (best : List Int) (m : Nat) (h : Int) : best.length ≤ (upd best m h).length := by
  unfold upd
  split
  · simp
  · split <;> simp

noncomputable def sumL (S : List Let) : Int := (S.map (·.2)).sum
noncomputable def candOf (start : Int) (S : List Let) : Option (Nat × Int) := if inTimeF S start = true then some (S.length, start + sumL S) else none
theorem maskStep_upd (letters : List Let) (start : Int) (k : Nat) (best : List Int) (mask : Nat) : maskStep letters start k best mask = match candOf start (chosenF letters k mask) with | some p => upd best p.1 p.2 | none => best := by
  unfold maskStep candOf
  split
  · rfl
  · rfl
theorem fold_good (letters : List Let) (start : Int) (k : Nat) : ∀ (ms : List Nat) (best : List Int) (C : List (Nat × Int)), GoodT best C → (∀ mask ∈ ms, inTimeF (chosenF letters k mask) start = true → (chosenF letters k mask).length ≤ best.length) →
    GoodT (ms.foldl (maskStep letters start k) best) (C ++ ms.filterMap fun mask => candOf start (chosenF letters k mask))
  | [], best, C, G, u1 => by simpa using G
  | mask :: ms, best, C, G, h => by
    rw [List.foldl_cons, List.filterMap_cons, maskStep_upd]
    cases e : candOf start (chosenF letters k mask) with
    | none => exact fold_good letters start k ms best C G fun m hm => h m (List.mem_cons_of_mem _ hm)
    | some p =>
      have hp : p.1 ≤ best.length := by
        unfold candOf at e
        split at e
        · rename_i q
          cases e
          exact h mask (List.mem_cons_self ..) q
        · cases e
      have G' := upd_good (h := p.2) G hp
      have := fold_good letters start k ms (upd best p.1 p.2) (C ++ [p]) G' fun m hm q => Nat.le_trans (h m (List.mem_cons_of_mem _ hm) q) (upd_len ..)
      simpa [List.append_assoc] using this
theorem fold_len (letters : List Let) (start : Int) (k : Nat) : ∀ (ms : List Nat) (best : List Int), best.length ≤ (ms.foldl (maskStep letters start k) best).length
  | [], best => Nat.le_refl _
  | mask :: ms, best => by
    rw [List.foldl_cons, maskStep_upd]
    cases e : candOf start (chosenF letters k mask) with
    | none => exact fold_len letters start k ms best
    | some p => exact Nat.le_trans (upd_len best p.1 p.2) (fold_len letters start k ms _)

noncomputable def letAt (letters : List Let) (j : Nat) : Let := letters.getD j (0, 0)
noncomputable def subF (letters : List Let) (k j : Nat) : List Let := ((List.range k).filter (bitN j)).map (letAt letters)
theorem bit_low {k j i : Nat} (hi : i < k) : bitN (2 ^ k + j) i = bitN j i := by
  unfold bitN
  have h : 2 ^ k = 2 ^ i * (2 ^ (k - i - 1) * 2) := by
    rw [← Nat.pow_succ, ← Nat.pow_add]; congr 1; omega
  rw [h, Nat.mul_add_div (Nat.pow_pos (by decide))]
  have : (2 ^ (k - i - 1) * 2 + j / 2 ^ i) % 2 = (j / 2 ^ i) % 2 := by omega
  rw [this]
theorem bit_top {k j : Nat} (hj : j < 2 ^ k) : bitN (2 ^ k + j) k = true := by
  unfold bitN
  have : (2 ^ k + j) / 2 ^ k = 1 := by
    rw [Nat.add_comm, Nat.add_div_right _ (Nat.pow_pos (by decide)), Nat.div_eq_of_lt hj]
  rw [this]; rfl
theorem bit_none {k j : Nat} (hj : j < 2 ^ k) : bitN j k = false := by
  unfold bitN
  rw [Nat.div_eq_of_lt hj]; rfl
theorem sub_top (letters : List Let) {k j : Nat} (hj : j < 2 ^ k) : chosenF letters k (2 ^ k + j) = subF letters k j ++ [letAt letters k] := by
  unfold chosenF subF
  rw [List.range_succ, List.filter_append, List.map_append]
  congr 1
  · congr 1
    apply List.filter_congr
    intro i hi
    exact bit_low (List.mem_range.mp hi)
  · rw [List.filter_cons, if_pos (bit_top hj)]; rfl
theorem sub_low (letters : List Let) {k j : Nat} (hj : j < 2 ^ k) : subF letters (k + 1) j = subF letters k j := by
  unfold subF
  rw [List.range_succ, List.filter_append, List.map_append, List.filter_cons, if_neg (by rw [bit_none hj]; decide)]
  simp
noncomputable def candK (letters : List Let) (start : Int) (k : Nat) : List (Nat × Int) := (List.range (2 ^ k)).filterMap fun j => candOf start (subF letters k j)
noncomputable def stepC (l : Let) (C : List (Nat × Int)) : List (Nat × Int) := C.filterMap fun p => if p.2 + l.2 ≤ l.1 then some (p.1 + 1, p.2 + l.2) else none
theorem sumL_append (S T : List Let) : sumL (S ++ T) = sumL S + sumL T := by simp [sumL]
theorem lateSum_all {S : List Let} {d : Int} (h : ∀ o ∈ S, o.1 ≤ d) : lateSum S d = sumL S := by
  unfold lateSum sumL
  rw [List.filter_eq_self.mpr (fun o ho => decide_eq_true (h o ho))]
theorem inTime_snoc (S : List Let) (l : Let) (start : Int) (hS : ∀ o ∈ S, o.1 ≤ l.1) (hl : 0 ≤ l.2) : inTimeF (S ++ [l]) start = (inTimeF S start && decide (start + sumL S + l.2 ≤ l.1)) := by
  have hall : ∀ o ∈ S ++ [l], o.1 ≤ l.1 := fun o ho => by
    rcases List.mem_append.mp ho with ho | ho
    · exact hS o ho
    · have : o = l := by simpa using ho
      rw [this]; exact Int.le_refl _
  have top : lateSum (S ++ [l]) l.1 = sumL S + l.2 := by rw [lateSum_all hall, sumL_append]; simp [sumL]
  have low : ∀ p ∈ S, p.1 < l.1 → lateSum (S ++ [l]) p.1 = lateSum S p.1 := fun p hp hlt => by
    unfold lateSum
    rw [List.filter_append, List.filter_cons, if_neg (by simpa using hlt)]
    simp
  rw [Bool.eq_iff_iff]
  simp only [inTimeF, List.all_eq_true, Bool.and_eq_true, decide_eq_true_eq, Bool.not_eq_true', decide_eq_false_iff_not]
  constructor
  · intro h
    have h1 := h l (by simp)
    rw [top] at h1
    refine ⟨fun p hp => ?_, by omega⟩
    rcases Int.lt_or_eq_of_le (hS p hp) with q | q
    · have := h p (List.mem_append_left _ hp)
      rwa [low p hp q] at this
    · rw [q, lateSum_all hS]; omega
  · rintro ⟨h1, h2⟩ p hp
    rcases List.mem_append.mp hp with hp | hp
    · rcases Int.lt_or_eq_of_le (hS p hp) with q | q
      · rw [low p hp q]; exact h1 p hp
      · rw [q, top]; omega
    · have : p = l := by simpa using hp
      rw [this, top]; omega
theorem sub_due {letters : List Let} {k j : Nat} {d : Int} (h : ∀ i, i < k → (letAt letters i).1 ≤ d) : ∀ o ∈ subF letters k j, o.1 ≤ d := fun o ho => by
  obtain ⟨i, hi, rfl⟩ := List.mem_map.mp ho
  exact h i (List.mem_range.mp (List.mem_filter.mp hi).1)
theorem cand_step (letters : List Let) (start : Int) (k : Nat) (hd : ∀ i, i < k → (letAt letters i).1 ≤ (letAt letters k).1) (hp : 0 ≤ (letAt letters k).2) :
    ((masksF k).filterMap fun mask => candOf start (chosenF letters k mask)) = stepC (letAt letters k) (candK letters start k) := by
  unfold masksF stepC candK
  rw [List.filterMap_map, List.filterMap_filterMap]
  apply fm_congr
  intro j hj
  have hj := List.mem_range.mp hj
  show candOf start (chosenF letters k (2 ^ k + j)) = _
  rw [sub_top letters hj]
  unfold candOf
  rw [inTime_snoc _ _ _ (sub_due hd) hp]
  cases e : inTimeF (subF letters k j) start with
  | false => simp
  | true =>
    simp only [Bool.true_and, if_true, Option.bind_some, decide_eq_true_eq]
    by_cases q : start + sumL (subF letters k j) + (letAt letters k).2 ≤ (letAt letters k).1
    · rw [if_pos q, if_pos q, sumL_append]
      simp [sumL, Int.add_assoc]
    · rw [if_neg q, if_neg q]
theorem candK_succ (letters : List Let) (start : Int) (k : Nat) (hd : ∀ i, i < k → (letAt letters i).1 ≤ (letAt letters k).1) (hp : 0 ≤ (letAt letters k).2) :
    candK letters start (k + 1) = candK letters start k ++ stepC (letAt letters k) (candK letters start k) := by
  rw [← cand_step letters start k hd hp]
  unfold candK masksF
  rw [Nat.pow_succ, Nat.mul_two, List.range_add, List.filterMap_append]
  congr 1
  · apply fm_congr
    intro j hj
    rw [sub_low letters (List.mem_range.mp hj)]
theorem candK_len {letters : List Let} {start : Int} {k j : Nat} (hj : j < 2 ^ k) (h : inTimeF (subF letters k j) start = true) : ((subF letters k j).length, start + sumL (subF letters k j)) ∈ candK letters start k :=
  List.mem_filterMap.mpr ⟨j, List.mem_range.mpr hj, by unfold candOf; rw [if_pos h]⟩
theorem masks_ok (letters : List Let) (start : Int) (k : Nat) (hd : ∀ i, i < k → (letAt letters i).1 ≤ (letAt letters k).1) (hp : 0 ≤ (letAt letters k).2) {best : List Int} (G : GoodT best (candK letters start k)) :
    ∀ mask ∈ masksF k, inTimeF (chosenF letters k mask) start = true → (chosenF letters k mask).length ≤ best.length := fun mask hm h => by
  obtain ⟨j, hj, rfl⟩ := List.mem_map.mp hm
  have hj := List.mem_range.mp hj
  rw [sub_top letters hj] at h ⊢
  rw [inTime_snoc _ _ _ (sub_due hd) hp, Bool.and_eq_true] at h
  obtain ⟨v, h1, _⟩ := G.low _ (candK_len hj h.1)
  have := (List.getElem?_eq_some_iff.mp h1).1
  simp at this ⊢
  omega
noncomputable def LetOk (letters : List Let) : Prop := (∀ i k, i < k → k < letters.length → (letAt letters i).1 ≤ (letAt letters k).1) ∧ ∀ k, k < letters.length → 0 ≤ (letAt letters k).2
theorem rows_good (letters : List Let) (start : Int) (h : LetOk letters) : ∀ k, k ≤ letters.length → GoodT (rowsF letters start k) (candK letters start k)
  | 0, u1 => by
    have e : candK letters start 0 = [(0, start)] := by
      simp [candK, candOf, subF, inTimeF, sumL]
    rw [e]
    show GoodT [start] _
    constructor
    · intro p hp
      have hp : p = (0, start) := by simpa using hp
      subst hp
      exact ⟨start, rfl, Int.le_refl _⟩
    · intro m v hm
      cases m with
      | zero => simp at hm; simp [hm]
      | succ m => simp at hm
  | k + 1, hk => by
    have hd := fun i hi => h.1 i k hi (by omega)
    have hp := h.2 k (by omega)
    have G := rows_good letters start h k (by omega)
    rw [candK_succ letters start k hd hp, ← cand_step letters start k hd hp]
    exact fold_good letters start k (masksF k) _ _ G (masks_ok letters start k hd hp G)
theorem tab_ok (letters : List Let) (start : Int) (h : LetOk letters) : TabOk letters start := fun k hk j hj ht => by
  have hd := fun i hi => h.1 i k hi hk
  have hp := h.2 k hk
  have G := rows_good letters start h k (by omega)
  exact Nat.le_trans (masks_ok letters start k hd hp G _ (List.mem_map.mpr ⟨j, List.mem_range.mpr hj, rfl⟩) ht) (fold_len ..)
end Mine
end
section
set_option linter.unusedVariables false
namespace Mine
set_option genSizeOf false
set_option genInjectivity false
theorem sum_take_succ' (l : List Int) (m : Nat) (h : m < l.length) : (l.take (m + 1)).sum = (l.take m).sum + l[m] := by
  rw [List.take_add_one, List.getElem?_eq_getElem h, List.sum_append]; simp
theorem sum_take_mono (l : List Int) (hl : ∀ x ∈ l, 0 ≤ x) : ∀ {j k : Nat}, j ≤ k → k ≤ l.length → (l.take j).sum ≤ (l.take k).sum := by
  intro j k hjk hk
  obtain ⟨d, rfl⟩ : ∃ d, k = j + d := ⟨k - j, by lia⟩
  induction d with
  | zero => exact Int.le_refl _
  | succ d ih =>
    have := ih (by lia) (by lia)
    rw [show j + (d + 1) = (j + d) + 1 by lia, sum_take_succ' l (j + d) (by lia)]
    have := hl l[j + d] (List.getElem_mem _)
    lia
section
variable {a b : List Int} {p : Int}
theorem ins_low {m : Nat} (h : m ≤ a.length) : (a ++ p :: b).take m = (a ++ b).take m := by
  rw [List.take_append_of_le_length h, List.take_append_of_le_length h]
theorem ins_high (i : Nat) : ((a ++ p :: b).take (a.length + 1 + i)).sum = ((a ++ b).take (a.length + i)).sum + p := by
  rw [List.take_append, List.take_append, List.take_of_length_le (by lia : a.length ≤ a.length + 1 + i), List.take_of_length_le (by lia : a.length ≤ a.length + i),
    show a.length + 1 + i - a.length = i + 1 by lia, show a.length + i - a.length = i by lia, List.take_succ_cons, List.sum_append, List.sum_append, List.sum_cons]
  lia
theorem mh_le (ha : ∀ x ∈ a, x ≤ p) (hb : ∀ x ∈ b, p ≤ x) {m : Nat} (h : m ≤ a.length + b.length) : ((a ++ p :: b).take m).sum ≤ ((a ++ b).take m).sum := by
  by_cases q : m ≤ a.length
  · rw [ins_low q]; exact Int.le_refl _
  · obtain ⟨i, rfl⟩ : ∃ i, m = a.length + 1 + i := ⟨m - a.length - 1, by lia⟩
    have hi : i < b.length := by lia
    rw [ins_high, show a.length + 1 + i = (a.length + i) + 1 by lia, sum_take_succ' (a ++ b) (a.length + i) (by simp; lia)]
    have : (a ++ b)[a.length + i]'(by simp; lia) = b[i] := by
      rw [List.getElem_append_right (by lia)]; congr 1; lia
    rw [this]
    have := hb b[i] (List.getElem_mem _)
    lia
theorem mh_step_le (ha : ∀ x ∈ a, x ≤ p) {m : Nat} (h : m ≤ a.length + b.length) : ((a ++ p :: b).take (m + 1)).sum ≤ ((a ++ b).take m).sum + p := by
  by_cases q : m + 1 ≤ a.length
  · rw [ins_low q, sum_take_succ' (a ++ b) m (by simp; lia)]
    have : (a ++ b)[m]'(by simp; lia) = a[m] := List.getElem_append_left (by lia)
    rw [this]
    have := ha a[m] (List.getElem_mem _)
    lia
  · obtain ⟨i, rfl⟩ : ∃ i, m = a.length + i := ⟨m - a.length, by lia⟩
    rw [show a.length + i + 1 = a.length + 1 + i by lia, ins_high]
    exact Int.le_refl _
theorem mh_cases {m : Nat} (h : m ≤ a.length + b.length + 1) : (m ≤ a.length + b.length ∧ ((a ++ p :: b).take m).sum = ((a ++ b).take m).sum) ∨ ∃ j, m = j + 1 ∧ ((a ++ p :: b).take m).sum = ((a ++ b).take j).sum + p := by
  by_cases q : m ≤ a.length
  · exact .inl ⟨by lia, by rw [ins_low q]⟩
  · obtain ⟨i, rfl⟩ : ∃ i, m = a.length + 1 + i := ⟨m - a.length - 1, by lia⟩
    exact .inr ⟨a.length + i, by lia, ins_high i⟩
end
theorem mem_stepC {l : Let} {C : List (Nat × Int)} {m : Nat} {h : Int} : (m, h) ∈ stepC l C ↔ ∃ j g, (j, g) ∈ C ∧ g + l.2 ≤ l.1 ∧ m = j + 1 ∧ h = g + l.2 := by
  unfold stepC
  rw [List.mem_filterMap]
  constructor
  · rintro ⟨⟨j, g⟩, h1, h2⟩
    split at h2
    · rename_i q
      injection h2 with h2
      injection h2 with h3 h4
      exact ⟨j, g, h1, q, h3.symm, h4.symm⟩
    · cases h2
  · rintro ⟨j, g, h1, h2, rfl, rfl⟩
    exact ⟨(j, g), h1, by rw [if_pos h2]⟩
theorem mh_keep {start : Int} {l : Let} {a b : List Int} {C : List (Nat × Int)} (G : GoodT (preL start (a ++ b)) C) (ha : ∀ x ∈ a, x ≤ l.2) (hb : ∀ x ∈ b, l.2 ≤ x) (hnn : ∀ x ∈ a ++ b, 0 ≤ x)
    (ht : start + (a ++ b).sum + l.2 ≤ l.1) : GoodT (preL start (a ++ l.2 :: b)) (C ++ stepC l C) := by
  have len : (a ++ l.2 :: b).length = a.length + b.length + 1 := by simp; lia
  have len0 : (a ++ b).length = a.length + b.length := by simp
  have top : ∀ j, j ≤ a.length + b.length → ((a ++ b).take j).sum ≤ (a ++ b).sum := fun j hj => by
    have := sum_take_mono (a ++ b) hnn (j := j) (k := (a ++ b).length) (by lia) (Nat.le_refl _)
    rwa [List.take_of_length_le (Nat.le_refl _)] at this
  constructor
  · rintro ⟨m, h⟩ hm
    rcases List.mem_append.mp hm with hm | hm
    · obtain ⟨v, h1, h2⟩ := G.low _ hm
      obtain ⟨q1, q2⟩ := preL_some h1
      have q1 : m ≤ a.length + b.length := by simpa using q1
      refine ⟨_, preL_get (by show m ≤ _; lia), ?_⟩
      have := mh_le (p := l.2) ha hb q1
      have h2 : v ≤ h := h2
      have q2 : v = start + ((a ++ b).take m).sum := q2
      show start + ((a ++ l.2 :: b).take m).sum ≤ h
      lia
    · obtain ⟨j, g, h1, h2, rfl, rfl⟩ := mem_stepC.mp hm
      obtain ⟨v, h3, h4⟩ := G.low _ h1
      obtain ⟨q1, q2⟩ := preL_some h3
      have q1 : j ≤ a.length + b.length := by simpa using q1
      refine ⟨_, preL_get (by show j + 1 ≤ _; lia), ?_⟩
      have := mh_step_le (p := l.2) (b := b) ha q1
      have h4 : v ≤ g := h4
      have q2 : v = start + ((a ++ b).take j).sum := q2
      show start + ((a ++ l.2 :: b).take (j + 1)).sum ≤ g + l.2
      lia
  · intro m v hm
    obtain ⟨q1, rfl⟩ := preL_some hm
    rw [len] at q1
    rcases mh_cases (a := a) (b := b) (p := l.2) q1 with ⟨h1, h2⟩ | ⟨j, rfl, h2⟩
    · rw [h2]
      exact List.mem_append_left _ (G.hit m _ (preL_get (by lia)))
    · rw [h2]
      have hj := G.hit j _ (preL_get (by lia))
      refine List.mem_append_right _ (mem_stepC.mpr ⟨j, _, hj, ?_, rfl, by lia⟩)
      have := top j (by lia)
      lia
theorem mh_drop {start : Int} {l : Let} {a b : List Int} {C : List (Nat × Int)} (G : GoodT (preL start (a ++ b)) C) (ha : ∀ x ∈ a, x ≤ l.2) (hb : ∀ x ∈ b, l.2 ≤ x) (hnn : ∀ x ∈ a ++ b, 0 ≤ x)
    (ht : l.1 < start + (a ++ b).sum + l.2) (hd : a ++ b = [] ∨ start + (a ++ b).sum ≤ l.1) : GoodT (preL start (a ++ l.2 :: b).dropLast) (C ++ stepC l C) ∧ ((a ++ l.2 :: b).dropLast = [] ∨ start + (a ++ l.2 :: b).dropLast.sum ≤ l.1) := by
  have len : (a ++ l.2 :: b).length = a.length + b.length + 1 := by simp; lia
  have len0 : (a ++ b).length = a.length + b.length := by simp
  have dl : (a ++ l.2 :: b).dropLast = (a ++ l.2 :: b).take (a.length + b.length) := by rw [List.dropLast_eq_take, len]; rfl
  have lenD : (a ++ l.2 :: b).dropLast.length = a.length + b.length := by rw [List.length_dropLast, len]; rfl
  have tk : ∀ m, m ≤ a.length + b.length → (a ++ l.2 :: b).dropLast.take m = (a ++ l.2 :: b).take m := fun m hm => by
    rw [dl, List.take_take, Nat.min_eq_left hm]
  have all : ((a ++ b).take (a.length + b.length)).sum = (a ++ b).sum := by rw [List.take_of_length_le (by lia)]
  have top : ∀ j, j ≤ a.length + b.length → ((a ++ b).take j).sum ≤ (a ++ b).sum := fun j hj => by
    have := sum_take_mono (a ++ b) hnn (j := j) (k := (a ++ b).length) (by lia) (Nat.le_refl _)
    rwa [List.take_of_length_le (Nat.le_refl _)] at this
  refine ⟨⟨?_, ?_⟩, ?_⟩
  · rintro ⟨m, h⟩ hm
    rcases List.mem_append.mp hm with hm | hm
    · obtain ⟨v, h1, h2⟩ := G.low _ hm
      obtain ⟨q1, q2⟩ := preL_some h1
      have q1 : m ≤ a.length + b.length := by simpa using q1
      refine ⟨_, preL_get (by show m ≤ _; lia), ?_⟩
      have := mh_le (p := l.2) ha hb q1
      have h2 : v ≤ h := h2
      have q2 : v = start + ((a ++ b).take m).sum := q2
      rw [tk m q1]
      lia
    · obtain ⟨j, g, h1, h2, rfl, rfl⟩ := mem_stepC.mp hm
      obtain ⟨v, h3, h4⟩ := G.low _ h1
      obtain ⟨q1, q2⟩ := preL_some h3
      have q1 : j ≤ a.length + b.length := by simpa using q1
      have h4 : v ≤ g := h4
      have q2 : v = start + ((a ++ b).take j).sum := q2
      have q3 : j + 1 ≤ a.length + b.length := by
        apply Nat.lt_of_le_of_ne q1
        intro e
        rw [e, all] at q2
        lia
      refine ⟨_, preL_get (by show j + 1 ≤ _; lia), ?_⟩
      have := mh_step_le (p := l.2) (b := b) ha q1
      rw [tk _ q3]
      show start + ((a ++ l.2 :: b).take (j + 1)).sum ≤ g + l.2
      lia
  · intro m v hm
    obtain ⟨q1, rfl⟩ := preL_some hm
    rw [lenD] at q1
    rw [tk m q1]
    rcases mh_cases (a := a) (b := b) (p := l.2) (by lia : m ≤ a.length + b.length + 1) with ⟨h1, h2⟩ | ⟨j, rfl, h2⟩
    · rw [h2]
      exact List.mem_append_left _ (G.hit m _ (preL_get (by lia)))
    · have h3 := mh_le (p := l.2) ha hb q1
      rw [h2] at h3 ⊢
      have hj := G.hit j _ (preL_get (by lia))
      refine List.mem_append_right _ (mem_stepC.mpr ⟨j, _, hj, ?_, rfl, by lia⟩)
      have h4 := top (j + 1) q1
      rcases hd with hd | hd
      · have := congrArg List.length hd
        rw [len0, List.length_nil] at this
        lia
      · lia
  · rw [dl]
    rcases hd with hd | hd
    · left
      have := congrArg List.length hd
      rw [len0] at this
      simp at this
      rw [this.1, this.2]; simp
    · right
      have := mh_le (p := l.2) ha hb (Nat.le_refl (a.length + b.length))
      rw [all] at this
      lia
theorem sortI_sorted (l : List Int) : (sortI l).Pairwise (· ≤ ·) := by
  have := List.pairwise_mergeSort (le := fun a b : Int => decide (a ≤ b)) (by intro a b c; simp; lia) (by intro a b; simp; lia) l
  exact this.imp fun h => by simpa using h
theorem sortI_perm (l : List Int) : (sortI l).Perm l := List.mergeSort_perm l _
theorem sortI_len (l : List Int) : (sortI l).length = l.length := (sortI_perm l).length_eq
theorem perm_sum {l l' : List Int} (h : l.Perm l') : l.sum = l'.sum := by
  induction h with
  | nil => rfl
  | cons x _ ih => rw [List.sum_cons, List.sum_cons, ih]
  | swap x y l => simp only [List.sum_cons]; lia
  | trans _ _ ih1 ih2 => exact ih1.trans ih2
theorem sortI_sum (l : List Int) : (sortI l).sum = l.sum := perm_sum (sortI_perm l)
theorem split_at (p : Int) : ∀ (s : List Int), s.Pairwise (· ≤ ·) → ∃ a b, s = a ++ b ∧ (∀ x ∈ a, x ≤ p) ∧ (∀ x ∈ b, p ≤ x)
  | [], u1 => ⟨[], [], rfl, by simp, by simp⟩
  | x :: s, h => by
    rw [List.pairwise_cons] at h
    by_cases q : x ≤ p
    · obtain ⟨a, b, e, h1, h2⟩ := split_at p s h.2
      refine ⟨x :: a, b, by rw [e]; rfl, fun y hy => ?_, h2⟩
      rcases List.mem_cons.mp hy with rfl | hy
      · exact q
      · exact h1 y hy
    · refine ⟨[], x :: s, rfl, by simp, fun y hy => ?_⟩
      rcases List.mem_cons.mp hy with rfl | hy
      · lia
      · have := h.1 y hy; lia
theorem sortI_snoc {l a b : List Int} {p : Int} (e : sortI l = a ++ b) (ha : ∀ x ∈ a, x ≤ p) (hb : ∀ x ∈ b, p ≤ x) : sortI (l ++ [p]) = a ++ p :: b := by
  symm
  apply sortI_unique
  · have h1 : (a ++ p :: b).Perm (p :: (a ++ b)) := List.perm_middle
    have h2 : (p :: (a ++ b)).Perm (p :: l) := by rw [← e]; exact (sortI_perm l).cons p
    have h3 : (p :: l).Perm (l ++ [p]) := (List.perm_append_singleton p l).symm
    exact (h1.trans h2).trans h3
  · have hs := e ▸ sortI_sorted l
    rw [List.pairwise_append] at hs ⊢
    refine ⟨hs.1, List.pairwise_cons.mpr ⟨hb, hs.2.1⟩, fun x hx y hy => ?_⟩
    rcases List.mem_cons.mp hy with rfl | hy
    · exact ha x hx
    · exact hs.2.2 x hx y hy
theorem sortI_drop {l l' : List Int} {v : Int} (hp : l.Perm (v :: l')) (hv : ∀ x ∈ l, x ≤ v) : sortI l' = (sortI l).dropLast := by
  symm
  have hne : sortI l ≠ [] := fun e => by
    have := sortI_len l
    rw [e, hp.length_eq] at this
    simp at this
  have hs := sortI_sorted l
  have hsplit : sortI l = (sortI l).dropLast ++ [(sortI l).getLast hne] := (List.dropLast_concat_getLast hne).symm
  have hlast : (sortI l).getLast hne = v := by
    apply Int.le_antisymm
    · exact hv _ ((sortI_perm l).mem_iff.mp (List.getLast_mem hne))
    · have hm : v ∈ sortI l := (sortI_perm l).mem_iff.mpr (hp.mem_iff.mpr (List.mem_cons_self ..))
      rw [hsplit] at hm hs
      rcases List.mem_append.mp hm with q | q
      · have := (List.pairwise_append.mp hs).2.2 v q ((sortI l).getLast hne) (by simp)
        exact this
      · have : v = (sortI l).getLast hne := by simpa using q
        lia
  apply sortI_unique
  · have h1 : (v :: (sortI l).dropLast).Perm (v :: l') := by
      have q : ((sortI l).dropLast ++ [v]).Perm (v :: l') := by
        have q2 := (sortI_perm l).trans hp
        rw [hsplit, hlast] at q2
        exact q2
      exact (List.perm_append_singleton v _).symm.trans q
    exact h1.cons_inv
  · rw [hsplit] at hs
    exact (List.pairwise_append.mp hs).1
end Mine
end
section
set_option linter.unusedVariables false
namespace Mine
set_option genSizeOf false
set_option genInjectivity false
set_option tactic.hygienic false
open PySem
noncomputable def lawT (dr : List Int) : List Str := dr.map textF
noncomputable def lawK (dr : List Int) (i : Nat) : Int × Int := (dr.getD i 0 / 4 % 10 * 5 + 8, (i : Int))
noncomputable def lawZ (dr : List Int) (i : Nat) : Int := (((lawT dr).getD i "").length : Int)
noncomputable def lawCards (dr : List Int) : List Card := cards5 (lawK dr) (lawZ dr)
noncomputable def lawRow (dr : List Int) : List Card := orderF es0 (lawCards dr)
noncomputable def lawEs (dr : List Int) : List (Int × Int) := [(1, -1), (2, 1 - dr.sum / 3 % 2 * 2)]
noncomputable def lawStart (dr : List Int) : Int := dr.sum % 3
noncomputable def lawRun (dr : List Int) : RunSt := runF (lawT dr) (lawEs dr) (lawStart dr) (lawRow dr)
noncomputable def lawLet (dr : List Int) : List Let := (lawRow dr).map fun c => (c.1, c.2.1)
end Mine
end
section
set_option linter.unusedVariables false
namespace Mine
set_option genSizeOf false
set_option genInjectivity false
open PySem PySem.Builtin.Str PySem.StrLaws PyProof PyProof.Rows
theorem slice_list (x : Str) (l u : Option Int) (a b : Nat) (hab : a ≤ b) (hb : b ≤ x.length) (e : strSliceIndices l u 1 x.length = (List.range (b - a)).map (a + ·)) : (Txt.slice x l u).cps.toList = (x.cps.toList.drop a).take (b - a) := by
  unfold Txt.slice
  rw [e]
  split
  · rename_i h
    have h : b - a = x.length := by simpa using h
    have ha : a = 0 := by omega
    have hx : x.cps.toList.length = x.length := Array.length_toList
    subst ha
    rw [List.drop_zero, List.take_of_length_le (by omega)]
  · show ((((List.range (b - a)).map (a + ·)).filterMap (x.cps[·]?)).toArray).toList = _
    rw [List.toList_toArray, pick_run]
theorem piece_lists (x : Str) : (Txt.slice x none (some 2)).cps.toList ++ (Txt.slice x (some 2) none).cps.toList = x.cps.toList := by
  have hx : x.cps.toList.length = x.length := Array.length_toList
  by_cases h : 2 ≤ x.length
  · rw [slice_list x none (some 2) 0 2 (by omega) h (by rw [sliceIdx_none_lo]; exact strSliceIndices_plain (a := 0) (b := 2) (by omega) h)]
    rw [slice_list x (some 2) none 2 x.length h (Nat.le_refl _) (by rw [sliceIdx_none_hi]; exact strSliceIndices_plain (a := 2) (b := x.length) h (Nat.le_refl _))]
    rw [List.drop_zero, show 2 - 0 = 2 from rfl, List.take_of_length_le (l := x.cps.toList.drop 2) (by rw [List.length_drop]; omega), List.take_append_drop]
  · have h2 : (x.length : Int) ≤ 2 := by omega
    rw [slice_list x none (some 2) 0 x.length (by omega) (Nat.le_refl _) (by rw [sliceIdx_hi_beyond _ h2, sliceIdx_none_lo]; exact strSliceIndices_plain (a := 0) (b := x.length) (by omega) (Nat.le_refl _))]
    rw [slice_list x (some 2) none x.length x.length (Nat.le_refl _) (Nat.le_refl _) (by rw [sliceIdx_lo_beyond _ h2, sliceIdx_none_hi]; exact strSliceIndices_plain (a := x.length) (b := x.length) (Nat.le_refl _) (Nat.le_refl _))]
    rw [List.drop_zero, Nat.sub_zero, Nat.sub_self, List.take_zero, List.append_nil, List.take_of_length_le (by omega)]
theorem piece_text (T : List Str) (cd : Card) : pcText (pieceOf T cd) = T.getD cd.2.2.toNat "" := by
  apply str_ext
  rw [pcText_cps]
  rw [Array.toList_append]
  exact piece_lists _
theorem piece_len2 (T : List Str) (cd : Card) : pcLen (pieceOf T cd) = ((T.getD cd.2.2.toNat "").length : Int) := by
  rw [← pcText_len, piece_text]
end Mine
end
section
set_option linter.unusedVariables false
namespace Mine
set_option genSizeOf false
set_option genInjectivity false
set_option tactic.hygienic false
open PySem
theorem ins_sorted {es : List (Int × Int)} {f : Card → Int} (h1 : ∀ x r, ltF es x r = true → f r ≤ f x) (h2 : ∀ x r, ltF es x r = false → f x ≤ f r) (x : Card) : ∀ (row : List Card), row.Pairwise (fun a b => f a ≤ f b) → (insF es row x).Pairwise (fun a b => f a ≤ f b)
  | [], u1 => by simp [insF]
  | a :: row, h => by
    rw [List.pairwise_cons] at h
    unfold insF
    cases e : ltF es x a with
    | true =>
      rw [List.takeWhile_cons_of_pos e, List.dropWhile_cons_of_pos e, List.cons_append, List.pairwise_cons]
      refine ⟨fun b hb => ?_, ins_sorted h1 h2 x row h.2⟩
      have hb : b ∈ insF es row x := hb
      rcases List.mem_cons.mp ((insF_perm es row x).mem_iff.mp hb) with rfl | hb
      · exact h1 _ _ e
      · exact h.1 b hb
    | false =>
      rw [List.takeWhile_cons_of_neg (by rw [e]; decide), List.dropWhile_cons_of_neg (by rw [e]; decide), List.nil_append, List.pairwise_cons]
      refine ⟨fun b hb => ?_, List.pairwise_cons.mpr h⟩
      rcases List.mem_cons.mp hb with rfl | hb
      · exact h2 _ _ e
      · exact Int.le_trans (h2 _ _ e) (h.1 b hb)
theorem order_sorted {es : List (Int × Int)} {f : Card → Int} (h1 : ∀ x r, ltF es x r = true → f r ≤ f x) (h2 : ∀ x r, ltF es x r = false → f x ≤ f r) (cs : List Card) : (orderF es cs).Pairwise (fun a b => f a ≤ f b) := by
  have key : ∀ (cs row : List Card), row.Pairwise (fun a b => f a ≤ f b) → (cs.foldl (insF es) row).Pairwise (fun a b => f a ≤ f b) := by
    intro cs
    induction cs with
    | nil => intro row h; exact h
    | cons a cs ih => intro row h; exact ih _ (ins_sorted h1 h2 a row h)
  exact key cs [] List.Pairwise.nil
theorem es0_1 (x r : Card) (h : ltF es0 x r = true) : r.1 ≤ x.1 := by
  have h := of_decide_eq_true h
  simp only [es0, cmpF, cardI] at h
  simp only [if_true] at h
  split at h
  · omega
  · split at h
    · omega
    · omega
theorem es0_2 (x r : Card) (h : ltF es0 x r = false) : x.1 ≤ r.1 := by
  have h := of_decide_eq_false h
  simp only [es0, cmpF, cardI] at h
  simp only [if_true] at h
  split at h
  · omega
  · omega
theorem lawEs_1 (dr : List Int) (x r : Card) (h : ltF (lawEs dr) x r = true) : -r.2.1 ≤ -x.2.1 := by
  have h := of_decide_eq_true h
  simp only [lawEs, cmpF, cardI] at h
  simp only [if_true, show ¬ ((1 : Int) = 0) by decide, if_false] at h
  split at h
  · omega
  · omega
theorem lawEs_2 (dr : List Int) (x r : Card) (h : ltF (lawEs dr) x r = false) : -x.2.1 ≤ -r.2.1 := by
  have h := of_decide_eq_false h
  simp only [lawEs, cmpF, cardI] at h
  simp only [if_true, show ¬ ((1 : Int) = 0) by decide, if_false] at h
  split at h
  · omega
  · split at h
    · omega
    · omega
theorem late_max (dr : List Int) {ly : List Card} (h : ly ≠ []) : ∀ c ∈ ly, c.2.1 ≤ (lateOf (lawEs dr) ly).2.1 := fun c hc => by
  have hs := order_sorted (f := fun c : Card => -c.2.1) (lawEs_1 dr) (lawEs_2 dr) ly
  have hm : c ∈ orderF (lawEs dr) ly := (orderF_perm _ ly).mem_iff.mpr hc
  unfold lateOf
  cases e : orderF (lawEs dr) ly with
  | nil => rw [e] at hm; cases hm
  | cons a r =>
    rw [e] at hs hm
    show c.2.1 ≤ a.2.1
    rcases List.mem_cons.mp hm with rfl | hm
    · exact Int.le_refl _
    · have := (List.pairwise_cons.mp hs).1 c hm
      have this : -a.2.1 ≤ -c.2.1 := this
      omega
section
variable {dr : List Int}
theorem row_len' : (lawRow dr).length = 5 := by
  unfold lawRow; rw [(orderF_perm _ _).length_eq]; rfl
theorem row_mem {cd : Card} (h : cd ∈ lawRow dr) : ∃ i, i < 5 ∧ cd = cardAt (lawK dr) (lawZ dr) i := by
  have hm := (orderF_perm _ _).mem_iff.mp h
  obtain ⟨i, hi, rfl⟩ := List.mem_map.mp hm
  have : i = 0 ∨ i = 1 ∨ i = 2 ∨ i = 3 ∨ i = 4 := by simpa using hi
  exact ⟨i, by omega, rfl⟩
theorem row_size {cd : Card} (h : cd ∈ lawRow dr) : cd.2.1 = pcLen (pieceOf (lawT dr) cd) := by
  obtain ⟨i, hi, rfl⟩ := row_mem h
  rw [piece_len2]
  show lawZ dr i = (((lawT dr).getD ((i : Int)).toNat "").length : Int)
  rw [Int.toNat_natCast]; rfl
theorem row_nn {cd : Card} (h : cd ∈ lawRow dr) : 0 ≤ cd.2.1 := by
  rw [row_size h]; unfold pcLen; omega
theorem row_due : (lawRow dr).Pairwise (fun a b => a.1 ≤ b.1) := order_sorted es0_1 es0_2 _
end
end Mine
end
section
set_option linter.unusedVariables false
namespace Mine
set_option genSizeOf false
set_option genInjectivity false
set_option tactic.hygienic false
open PySem
theorem any_false {t : List (Int × Int)} {k : Int} (h : k ∉ t.map (·.1)) : t.any (fun p => decide (p.1 = k)) = false := by
  rw [List.any_eq_false]
  intro p hp q
  exact h (List.mem_map.mpr ⟨p, hp, of_decide_eq_true q⟩)
theorem set_fresh {t : List (Int × Int)} {k v : Int} (h : k ∉ t.map (·.1)) : setD t k v = t ++ [(k, v)] := by
  unfold setD
  rw [if_neg (by rw [any_false h]; decide)]
theorem fold_put : ∀ (t acc : List (Int × Int)), ((acc ++ t).map (·.1)).Nodup → t.foldl putD acc = acc ++ t
  | [], acc, u1 => by simp
  | p :: t, acc, h => by
    rw [List.foldl_cons]
    have h1 : p.1 ∉ acc.map (·.1) := fun q => by
      rw [List.map_append, List.map_cons, List.nodup_append] at h
      exact h.2.2 _ q _ (List.mem_cons_self ..) rfl
    rw [show putD acc p = acc ++ [p] from set_fresh h1]
    rw [fold_put t (acc ++ [p]) (by rw [List.append_assoc]; exact h), List.append_assoc]; rfl
theorem callers_one {t : List (Int × Int)} (h : (t.map (·.1)).Nodup) (k : Int) : callersF t [(k, 1)] = setD t k ((lookD t k).getD 0 + 1) := by
  unfold callersF
  rw [fold_put t [] h, List.nil_append, List.foldl_cons, List.foldl_nil]
  unfold addD
  show (match lookD t k with | some q => setD t k (q + 1) | none => setD t k 1) = _
  cases lookD t k with
  | none => rfl
  | some q => rfl
theorem set_map {t : List (Int × Int)} {k v : Int} : (t.map fun p => if p.1 = k then (p.1, v) else p).map (·.1) = t.map (·.1) := by
  rw [List.map_map]
  apply List.map_congr_left
  intro p _
  show (if p.1 = k then (p.1, v) else p).1 = p.1
  split <;> rfl
theorem set_nodup {t : List (Int × Int)} {k v : Int} (h : (t.map (·.1)).Nodup) : ((setD t k v).map (·.1)).Nodup := by
  by_cases hk : k ∈ t.map (·.1)
  · have : t.any (fun p => decide (p.1 = k)) = true := by
      obtain ⟨p, hp, e⟩ := List.mem_map.mp hk
      exact List.any_eq_true.mpr ⟨p, hp, decide_eq_true e⟩
    unfold setD
    rw [if_pos this, set_map]
    exact h
  · rw [set_fresh hk, List.map_append, List.nodup_append]
    refine ⟨h, by simp, ?_⟩
    intro a ha b hb
    have hb : b = k := by simpa using hb
    subst hb
    exact fun e => hk (e ▸ ha)
theorem look_none {t : List (Int × Int)} {k : Int} (h : k ∉ t.map (·.1)) : lookD t k = none := by
  unfold lookD
  rw [List.find?_eq_none.mpr fun p hp q => h (List.mem_map.mpr ⟨p, hp, of_decide_eq_true q⟩)]; rfl
theorem map_sum : ∀ (t : List (Int × Int)) (k v : Int), (t.map (·.1)).Nodup → k ∈ t.map (·.1) → ((t.map fun p => if p.1 = k then (p.1, v) else p).map (·.2)).sum = (t.map (·.2)).sum - (lookD t k).getD 0 + v
  | [], k, v, u1, hk => by simp at hk
  | p :: t, k, v, h, hk => by
    rw [List.map_cons, List.nodup_cons] at h
    by_cases q : p.1 = k
    · have hk' : k ∉ t.map (·.1) := q ▸ h.1
      have e : (t.map fun p => if p.1 = k then (p.1, v) else p) = t := by
        conv => rhs; rw [← List.map_id t]
        apply List.map_congr_left
        intro a ha
        rw [if_neg fun e => hk' (List.mem_map.mpr ⟨a, ha, e⟩)]; rfl
      have l : lookD (p :: t) k = some p.2 := by unfold lookD; rw [List.find?_cons, decide_eq_true q]; rfl
      rw [l, List.map_cons, if_pos q, e, List.map_cons, List.sum_cons, List.map_cons, List.sum_cons]
      show v + _ = p.2 + _ - p.2 + v
      omega
    · have hk' : k ∈ t.map (·.1) := by
        rcases List.mem_cons.mp hk with e | e
        · exact absurd e.symm q
        · exact e
      have l : lookD (p :: t) k = lookD t k := by unfold lookD; rw [List.find?_cons, decide_eq_false q]
      rw [l, List.map_cons, if_neg q, List.map_cons, List.sum_cons, List.map_cons, List.sum_cons, map_sum t k v h.2 hk']
      omega
theorem set_sum {t : List (Int × Int)} (k v : Int) (h : (t.map (·.1)).Nodup) : ((setD t k v).map (·.2)).sum = (t.map (·.2)).sum - (lookD t k).getD 0 + v := by
  by_cases hk : k ∈ t.map (·.1)
  · have : t.any (fun p => decide (p.1 = k)) = true := by
      obtain ⟨p, hp, e⟩ := List.mem_map.mp hk
      exact List.any_eq_true.mpr ⟨p, hp, decide_eq_true e⟩
    unfold setD
    rw [if_pos this]
    exact map_sum t k v h hk
  · rw [set_fresh hk, look_none hk, List.map_append, List.sum_append]
    simp
end Mine
end
section
set_option linter.unusedVariables false
namespace Mine
set_option genSizeOf false
set_option genInjectivity false
set_option tactic.hygienic false
open PySem
theorem drawStep_get (script dr : List Int) (k : Nat) (h : ∀ x ∈ dr, 0 ≤ x) : ∀ x ∈ drawStep script dr k, 0 ≤ x := fun x hx => by
  unfold drawStep at hx
  rcases List.mem_or_eq_of_mem_set hx with hx | rfl
  · exact h x hx
  · have h1 : 0 ≤ dr.getD (k % 5) 0 := by
      rw [List.getD_eq_getElem?_getD]
      cases e : dr[k % 5]? with
      | none => exact Int.le_refl _
      | some y => exact h y (List.mem_of_getElem? e)
    have h2 : 0 ≤ script.getD k 0 % 1000003 := Int.emod_nonneg _ (by decide)
    lia
theorem drawn_both (script : List Int) : (drawnF script).length = 5 ∧ ∀ x ∈ drawnF script, 0 ≤ x := by
  have key : ∀ (ks : List Nat) (dr : List Int), dr.length = 5 → (∀ x ∈ dr, 0 ≤ x) → (ks.foldl (drawStep script) dr).length = 5 ∧ ∀ x ∈ ks.foldl (drawStep script) dr, 0 ≤ x := by
    intro ks
    induction ks with
    | nil => intro dr h1 h2; exact ⟨h1, h2⟩
    | cons k ks ih => intro dr h1 h2; exact ih _ (by rw [drawStep_len]; exact h1) (drawStep_get script dr k h2)
  exact key _ drawn0 rfl (by decide)
theorem drawn_len (script : List Int) : (drawnF script).length = 5 := (drawn_both script).1
theorem drawn_pos (script : List Int) : ∀ x ∈ drawnF script, 0 ≤ x := (drawn_both script).2
noncomputable def szs (ly : List Card) : List Int := ly.map (·.2.1)
theorem szs_len (ly : List Card) : (szs ly).length = ly.length := List.length_map ..
section
variable {dr : List Int}
theorem let_len' : (lawLet dr).length = 5 := by unfold lawLet; rw [List.length_map]; exact row_len'
theorem let_at {k : Nat} (h : k < (lawRow dr).length) : letAt (lawLet dr) k = ((lawRow dr)[k].1, (lawRow dr)[k].2.1) := by
  unfold letAt lawLet
  rw [List.getD_eq_getElem?_getD, List.getElem?_map, List.getElem?_eq_getElem h]; rfl
theorem let_ok' : LetOk (lawLet dr) := by
  refine ⟨fun i k hik hk => ?_, fun k hk => ?_⟩
  · rw [let_len'] at hk
    rw [let_at (by rw [row_len']; lia), let_at (by rw [row_len']; lia)]
    exact List.pairwise_iff_getElem.mp (row_due (dr := dr)) i k (by rw [row_len']; lia) (by rw [row_len']; lia) hik
  · rw [let_len'] at hk
    rw [let_at (by rw [row_len']; lia)]
    exact row_nn (List.getElem_mem _)
theorem pcl_szs {ly : List Card} (h : ∀ cd ∈ ly, cd ∈ lawRow dr) : (ly.map fun c => pcLen (pieceOf (lawT dr) c)) = szs ly :=
  List.map_congr_left fun cd hc => (row_size (h cd hc)).symm
theorem pcs_szs {ly : List Card} (h : ∀ cd ∈ ly, cd ∈ lawRow dr) : pcSum (ly.map (pieceOf (lawT dr))) = (szs ly).sum := by
  induction ly with
  | nil => rfl
  | cons a ly ih =>
    show pcLen _ + pcSum _ = a.2.1 + (szs ly).sum
    rw [ih fun c hc => h c (List.mem_cons_of_mem _ hc), row_size (h a (List.mem_cons_self ..))]
theorem lastI_preL (start : Int) (l : List Int) : lastI (preL start l) = start + l.sum := by
  unfold lastI
  rw [List.getLast?_eq_getElem?, preL_len, Nat.add_sub_cancel, preL_get (Nat.le_refl _), List.take_length]; rfl
noncomputable def bkSt (dr : List Int) (k : Nat) : Book × List Int := (((lawLet dr).zip (tablesF (lawLet dr) (lawStart dr))).take k).foldl bookStep ((0, 0, 0, 0, []), [lawStart dr])
theorem tab_len : (tablesF (lawLet dr) (lawStart dr)).length = 5 := by unfold tablesF; rw [List.length_map, List.length_range]; exact let_len'
theorem bkSt_succ {k : Nat} (h : k < 5) : bkSt dr (k + 1) = bookStep (bkSt dr k) (letAt (lawLet dr) k, rowsF (lawLet dr) (lawStart dr) (k + 1)) := by
  have hz : ((lawLet dr).zip (tablesF (lawLet dr) (lawStart dr))).length = 5 := by rw [List.length_zip, let_len', tab_len]; rfl
  unfold bkSt
  rw [List.take_add_one, List.getElem?_eq_getElem (by rw [hz]; exact h), Option.toList_some, List.foldl_append, List.foldl_cons, List.foldl_nil]
  congr 1
  rw [List.getElem_zip]
  refine Prod.ext ?_ ?_
  · show (lawLet dr)[k]'(by rw [let_len']; exact h) = letAt (lawLet dr) k
    unfold letAt
    rw [List.getD_eq_getElem?_getD, List.getElem?_eq_getElem (by rw [let_len']; exact h)]; rfl
  · show (tablesF (lawLet dr) (lawStart dr))[k]'(by rw [tab_len]; exact h) = _
    unfold tablesF
    rw [List.getElem_map, List.getElem_range]
structure Run (dr : List Int) (k : Nat) (st : RunSt) : Prop where
  mem : ∀ cd ∈ st.1, cd ∈ lawRow dr
  len : st.1.length ≤ k
  good : GoodT (preL (lawStart dr) (sortI (szs st.1))) (candK (lawLet dr) (lawStart dr) k)
  due : st.1 = [] ∨ ∀ j, k ≤ j → j < 5 → lawStart dr + (szs st.1).sum ≤ (letAt (lawLet dr) j).1
  bk : bkSt dr k = (st.2.1, preL (lawStart dr) (sortI (szs st.1)))
  nd : (st.2.1.2.2.2.2.map (·.1)).Nodup
  cnt : (st.2.1.2.2.2.2.map (·.2)).sum = (k : Int) - (st.1.length : Int)
  sl : st.2.2.length = k
  seen : ∀ i, i < k → ∃ p, st.2.2[i]? = some p ∧ rowsF (lawLet dr) (lawStart dr) (i + 1) = preL (lawStart dr) p.2.2 ∧ p.1 = p.2.2.length ∧ p.2.1 = lawStart dr + p.2.2.sum ∧ p.2.2.length ≤ 5
theorem run_zero : Run dr 0 ([], (0, 0, 0, 0, []), []) := by
  have e : preL (lawStart dr) (sortI (szs [])) = [lawStart dr] := by
    have : sortI (szs []) = [] := by
      have := sortI_len (szs [])
      exact List.length_eq_zero_iff.mp this
    rw [this]; simp [preL]
  refine ⟨(fun uu h => nomatch h), Nat.le_refl _, ?_, .inl rfl, ?_, List.nodup_nil, rfl, rfl, (fun i h => absurd h (Nat.not_lt_zero _))⟩
  · show GoodT (preL (lawStart dr) (sortI (szs []))) _
    rw [e]; exact rows_good _ _ let_ok' 0 (Nat.zero_le _)
  · show bkSt dr 0 = (_, preL (lawStart dr) (sortI (szs [])))
    rw [e]; rfl
theorem run_close {k : Nat} {st : RunSt} (R : Run dr k st) (hk : k < 5) {ly : List Card} {bk : Book} (hm : ∀ cd ∈ ly, cd ∈ lawRow dr) (hl : ly.length ≤ k + 1)
    (hg : GoodT (preL (lawStart dr) (sortI (szs ly))) (candK (lawLet dr) (lawStart dr) (k + 1))) (hd : ly = [] ∨ lawStart dr + (szs ly).sum ≤ (letAt (lawLet dr) k).1)
    (hb : bookStep (st.2.1, preL (lawStart dr) (sortI (szs st.1))) (letAt (lawLet dr) k, preL (lawStart dr) (sortI (szs ly))) = (bk, preL (lawStart dr) (sortI (szs ly)))) (hn : (bk.2.2.2.2.map (·.1)).Nodup) (hc : (bk.2.2.2.2.map (·.2)).sum = ((k + 1 : Nat) : Int) - (ly.length : Int)) :
    Run dr (k + 1) (ly, bk, st.2.2 ++ [seenOf (lawT dr) (lawStart dr) ly]) := by
  have hr : rowsF (lawLet dr) (lawStart dr) (k + 1) = preL (lawStart dr) (sortI (szs ly)) := (rows_good _ _ let_ok' (k + 1) (by rw [let_len']; lia)).unique hg
  refine ⟨hm, hl, hg, ?_, ?_, hn, hc, ?_, fun i hi => ?_⟩
  · rcases hd with hd | hd
    · exact .inl hd
    · exact .inr fun j h1 h2 => Int.le_trans hd (let_ok'.1 k j (by lia) (by rw [let_len']; lia))
  · rw [bkSt_succ hk, R.bk, hr]; exact hb
  · show (st.2.2 ++ [_]).length = k + 1
    rw [List.length_append, R.sl]; rfl
  · by_cases q : i < k
    · obtain ⟨p, h1, h2⟩ := R.seen i q
      refine ⟨p, ?_, h2⟩
      show (st.2.2 ++ [_])[i]? = some p
      rw [List.getElem?_append_left (by rw [R.sl]; exact q)]; exact h1
    · have : i = k := by lia
      subst this
      refine ⟨seenOf (lawT dr) (lawStart dr) ly, ?_, ?_, ?_, ?_, ?_⟩
      · show (st.2.2 ++ [_])[i]? = _
        rw [List.getElem?_append_right (by rw [R.sl]; exact Nat.le_refl _), R.sl, Nat.sub_self]; rfl
      · show _ = preL _ (sortI (ly.map fun c => pcLen (pieceOf (lawT dr) c)))
        rw [pcl_szs hm]; exact hr
      · show (ly.length : Int) = ((sortI (ly.map fun c => pcLen (pieceOf (lawT dr) c))).length : Int)
        rw [sortI_len, List.length_map]
      · show lawStart dr + pcSum (ly.map (pieceOf (lawT dr))) = lawStart dr + (sortI (ly.map fun c => pcLen (pieceOf (lawT dr) c))).sum
        rw [pcl_szs hm, sortI_sum, pcs_szs hm]
      · show (sortI (ly.map fun c => pcLen (pieceOf (lawT dr) c))).length ≤ 5
        rw [sortI_len, List.length_map]; lia
theorem take_perm {α : Type} (l : List α) (i : Nat) (h : i < l.length) : l.Perm (l[i] :: (l.take i ++ l.drop (i + 1))) := by
  have e : l = l.take i ++ l[i] :: l.drop (i + 1) := by
    rw [← List.drop_eq_getElem_cons h, List.take_append_drop]
  conv => lhs; rw [e]
  exact List.perm_middle
theorem run_step {k : Nat} {st : RunSt} (R : Run dr k st) (hk : k < (lawRow dr).length) : Run dr (k + 1) (runStep (lawT dr) (lawEs dr) (lawStart dr) st (lawRow dr)[k]) := by
  have hk5 : k < 5 := by rw [← row_len' (dr := dr)]; exact hk
  have hcard : (lawRow dr)[k] ∈ lawRow dr := List.getElem_mem _
  have hla := let_at hk
  generalize (lawRow dr)[k] = card at hcard hla
  have hl1 : (letAt (lawLet dr) k).1 = card.1 := by rw [hla]
  have hl2 : (letAt (lawLet dr) k).2 = card.2.1 := by rw [hla]
  have lyne : st.1 ++ [card] ≠ [] := by simp
  have hm : ∀ cd ∈ st.1 ++ [card], cd ∈ lawRow dr := fun cd hc => by
    rcases List.mem_append.mp hc with hc | hc
    · exact R.mem cd hc
    · have : cd = card := by simpa using hc
      exact this ▸ hcard
  have hsz : szs (st.1 ++ [card]) = szs st.1 ++ [card.2.1] := by unfold szs; rw [List.map_append]; rfl
  obtain ⟨a, b, eab, ha, hb⟩ := split_at card.2.1 (sortI (szs st.1)) (sortI_sorted _)
  have hs1 : sortI (szs (st.1 ++ [card])) = a ++ card.2.1 :: b := by rw [hsz]; exact sortI_snoc eab ha hb
  have hnn : ∀ x ∈ a ++ b, 0 ≤ x := fun x hx => by
    rw [← eab] at hx
    obtain ⟨cd, hc, rfl⟩ := List.mem_map.mp ((sortI_perm _).mem_iff.mp hx)
    exact row_nn (R.mem cd hc)
  have hsum : (a ++ b).sum = (szs st.1).sum := by rw [← eab, sortI_sum]
  have hov : overOf (lawT dr) (lawStart dr) (st.1 ++ [card]) card = lawStart dr + ((szs st.1).sum + card.2.1) - card.1 := by
    unfold overOf
    rw [pcs_szs hm, hsz, List.sum_append]; simp
  have hcs := candK_succ (lawLet dr) (lawStart dr) k (fun i hi => let_ok'.1 i k hi (by rw [let_len']; lia)) (let_ok'.2 k (by rw [let_len']; lia))
  have G := R.good
  rw [eab] at G
  have l0 : (szs st.1).length = st.1.length := szs_len _
  by_cases hover : 0 < overOf (lawT dr) (lawStart dr) (st.1 ++ [card]) card
  · -- the longest goes
    have hst : runStep (lawT dr) (lawEs dr) (lawStart dr) st card = ((st.1 ++ [card]).take (placeOf (lawEs dr) (st.1 ++ [card])) ++ (st.1 ++ [card]).drop (placeOf (lawEs dr) (st.1 ++ [card]) + 1), statsF st.2.1 (1, (lateOf (lawEs dr) (st.1 ++ [card])).2.1, overOf (lawT dr) (lawStart dr) (st.1 ++ [card]) card, card.1, [((lateOf (lawEs dr) (st.1 ++ [card])).2.1, 1)]), st.2.2 ++ [seenOf (lawT dr) (lawStart dr) ((st.1 ++ [card]).take (placeOf (lawEs dr) (st.1 ++ [card])) ++ (st.1 ++ [card]).drop (placeOf (lawEs dr) (st.1 ++ [card]) + 1))]) := by
      unfold runStep lyStep bkStep
      rw [if_pos hover, if_pos hover]
    rw [hst]
    have hp := take_perm (st.1 ++ [card]) (placeOf (lawEs dr) (st.1 ++ [card])) (placeOf_lt _ lyne)
    rw [placeOf_get _ lyne] at hp
    have hmax := late_max dr lyne
    generalize (st.1 ++ [card]).take (placeOf (lawEs dr) (st.1 ++ [card])) ++ (st.1 ++ [card]).drop (placeOf (lawEs dr) (st.1 ++ [card]) + 1) = ly at hp ⊢
    generalize lateOf (lawEs dr) (st.1 ++ [card]) = late at hp hmax ⊢
    have hps : (szs (st.1 ++ [card])).Perm (late.2.1 :: szs ly) := hp.map (fun c : Card => c.2.1)
    have hdrop : sortI (szs ly) = (a ++ card.2.1 :: b).dropLast := by
      rw [← hs1]
      refine sortI_drop hps fun x hx => ?_
      obtain ⟨cd, hc, rfl⟩ := List.mem_map.mp hx
      exact hmax cd hc
    have hlen : ly.length = st.1.length := by
      have := hp.length_eq
      simp only [List.length_append, List.length_cons, List.length_nil] at this
      lia
    have hsl : (szs st.1).sum + card.2.1 = late.2.1 + (szs ly).sum := by
      have := perm_sum hps
      rw [hsz, List.sum_append, List.sum_cons] at this
      simpa using this
    have hab0 : a ++ b = [] ∨ lawStart dr + (a ++ b).sum ≤ (letAt (lawLet dr) k).1 := by
      rcases R.due with h | h
      · left
        rw [← eab]
        apply List.length_eq_zero_iff.mp
        rw [sortI_len, l0, h]; rfl
      · right
        rw [hsum]; exact h k (Nat.le_refl _) hk5
    have MH := mh_drop (l := letAt (lawLet dr) k) (start := lawStart dr) (a := a) (b := b) G (by rw [hl2]; exact ha) (by rw [hl2]; exact hb) hnn (by rw [hl1, hl2, hsum]; lia) hab0
    rw [hl2, ← hdrop, ← hcs, sortI_sum] at MH
    refine run_close R hk5 (fun cd hc => hm cd (hp.mem_iff.mpr (List.mem_cons_of_mem _ hc))) (by rw [hlen]; exact Nat.le_succ_of_le R.len) MH.1 ?_ ?_ ?_ ?_
    · rcases MH.2 with h | h
      · left
        apply List.length_eq_zero_iff.mp
        rw [← szs_len, ← sortI_len, h]; rfl
      · exact .inr h
    · unfold bookStep
      rw [if_pos (by rw [preL_len, preL_len, sortI_len, sortI_len, szs_len, szs_len, hlen])]
      rw [lastI_preL, lastI_preL, sortI_sum, sortI_sum, hl1, hl2]
      have e1 : lawStart dr + (szs st.1).sum + card.2.1 - (lawStart dr + (szs ly).sum) = late.2.1 := by lia
      rw [e1]
      unfold statsF
      rw [callers_one R.nd]
      refine Prod.ext (Prod.ext ?_ (Prod.ext ?_ (Prod.ext ?_ (Prod.ext ?_ ?_)))) rfl
      · show st.2.1.1 + 1 = 1 + st.2.1.1; lia
      · show st.2.1.2.1 + late.2.1 = late.2.1 + st.2.1.2.1; lia
      · show st.2.1.2.2.1 + (lawStart dr + (szs st.1).sum + card.2.1 - card.1) = overOf (lawT dr) (lawStart dr) (st.1 ++ [card]) card + st.2.1.2.2.1
        rw [hov]; lia
      · show st.2.1.2.2.2.1 + card.1 = card.1 + st.2.1.2.2.2.1; lia
      · rfl
    · show ((callersF st.2.1.2.2.2.2 [(late.2.1, 1)]).map (·.1)).Nodup
      rw [callers_one R.nd]; exact set_nodup R.nd
    · show ((callersF st.2.1.2.2.2.2 [(late.2.1, 1)]).map (·.2)).sum = _
      rw [callers_one R.nd, set_sum _ _ R.nd, R.cnt, hlen]; lia
  · have hst : runStep (lawT dr) (lawEs dr) (lawStart dr) st card = (st.1 ++ [card], st.2.1, st.2.2 ++ [seenOf (lawT dr) (lawStart dr) (st.1 ++ [card])]) := by
      unfold runStep lyStep bkStep
      rw [if_neg hover, if_neg hover]
    rw [hst]
    have MH := mh_keep (l := letAt (lawLet dr) k) (start := lawStart dr) (a := a) (b := b) G (by rw [hl2]; exact ha) (by rw [hl2]; exact hb) hnn (by rw [hl1, hl2, hsum]; lia)
    rw [hl2, ← hs1, ← hcs] at MH
    refine run_close R hk5 hm (by rw [List.length_append]; exact Nat.succ_le_succ R.len) MH (.inr ?_) ?_ R.nd ?_
    · rw [hsz, List.sum_append, hl1]
      simp only [List.sum_cons, List.sum_nil]
      lia
    · unfold bookStep
      rw [if_neg (by rw [preL_len, preL_len, sortI_len, sortI_len, szs_len, szs_len, List.length_append]; simp)]
    · rw [R.cnt, List.length_append]; simp only [List.length_cons, List.length_nil]; lia
theorem run_all : ∀ k, k ≤ 5 → Run dr k (((lawRow dr).take k).foldl (runStep (lawT dr) (lawEs dr) (lawStart dr)) ([], (0, 0, 0, 0, []), []))
  | 0, u1 => run_zero
  | k + 1, h => by
    have hk : k < (lawRow dr).length := by rw [row_len']; lia
    rw [List.take_add_one, List.getElem?_eq_getElem hk, Option.toList_some, List.foldl_append, List.foldl_cons, List.foldl_nil]
    exact run_step (run_all k (by lia)) hk
theorem run_end : Run dr 5 (lawRun dr) := by
  have := run_all (dr := dr) 5 (Nat.le_refl _)
  rw [List.take_of_length_le (by rw [row_len']; exact Nat.le_refl _)] at this
  exact this
end
section
variable {dr : List Int} (h5 : dr.length = 5)
include h5
set_option linter.unusedSectionVars false
theorem row_len : (lawRow dr).length = 5 := row_len'
theorem row_ix : ∀ cd ∈ lawRow dr, 0 ≤ cd.2.2 ∧ cd.2.2 < 5 := fun cd hc => by
  obtain ⟨i, hi, rfl⟩ := row_mem hc
  show 0 ≤ (i : Int) ∧ (i : Int) < 5
  lia
theorem run_ly : (lawRun dr).1.length ≤ 5 ∧ ∀ cd ∈ (lawRun dr).1, cd ∈ lawRow dr := ⟨run_end.len, run_end.mem⟩
theorem let_ok : LetOk (lawLet dr) := let_ok'
theorem tab_good : ∀ i, i < 5 → ∃ p, (lawRun dr).2.2[i]? = some p ∧ (tablesF (lawLet dr) (lawStart dr))[i]? = some (preL (lawStart dr) p.2.2) ∧ p.1 = p.2.2.length ∧ p.2.1 = lawStart dr + p.2.2.sum ∧ p.2.2.length ≤ 5 := fun i hi => by
  obtain ⟨p, h1, h2, h3⟩ := run_end.seen (dr := dr) i hi
  refine ⟨p, h1, ?_, h3⟩
  unfold tablesF
  rw [List.getElem?_map, List.getElem?_range (by rw [let_len']; exact hi)]
  exact congrArg some h2
theorem tabs_ok : ∀ t ∈ tablesF (lawLet dr) (lawStart dr), t ≠ [] ∧ t.length ≤ 1000 := fun t ht => by
  obtain ⟨i, hi, e⟩ := List.getElem_of_mem ht
  obtain ⟨p, h1, h2, h3, h4, hlen⟩ := tab_good h5 i (by rw [← tab_len (dr := dr)]; exact hi)
  rw [List.getElem?_eq_getElem hi, e] at h2
  have h2 := Option.some.inj h2
  subst h2
  have pl := preL_len (lawStart dr) p.2.2
  refine ⟨fun q => ?_, by lia⟩
  rw [q] at pl; simp at pl
theorem seen_ok : ∀ p ∈ (lawRun dr).2.2.zip (tablesF (lawLet dr) (lawStart dr)), p.2 = preL (lawStart dr) p.1.2.2 ∧ p.1.1 = p.1.2.2.length ∧ p.1.2.1 = lawStart dr + p.1.2.2.sum ∧ p.1.2.2.length ≤ 100 := fun q hq => by
  obtain ⟨i, hi, e⟩ := List.getElem_of_mem hq
  have hi' := hi
  rw [List.length_zip, tab_len] at hi'
  obtain ⟨p, h1, h2, h3, h4, hlen⟩ := tab_good h5 i (by omega +splitDisjunctions)
  rw [List.getElem_zip] at e
  subst e
  rw [List.getElem?_eq_getElem (by omega +splitDisjunctions)] at h1
  rw [List.getElem?_eq_getElem (by rw [tab_len]; omega +splitDisjunctions)] at h2
  have h1 := Option.some.inj h1
  have h2 := Option.some.inj h2
  show _ = preL (lawStart dr) ((lawRun dr).2.2[i]'(by omega +splitDisjunctions)).2.2 ∧ ((lawRun dr).2.2[i]'(by omega +splitDisjunctions)).1 = _ ∧ ((lawRun dr).2.2[i]'(by omega +splitDisjunctions)).2.1 = _ ∧ _
  rw [h1]
  exact ⟨h2, h3, h4, Nat.le_trans hlen (by decide)⟩
theorem str_ok : Txt.join "" (((lawRun dr).1.map (pieceOf (lawT dr))).map pcText) = Txt.join "" ((lawRun dr).1.map fun c => (lawT dr).getD c.2.2.toNat "") := by
  congr 1
  rw [List.map_map]
  exact List.map_congr_left fun cd uu => piece_text (lawT dr) cd
theorem book_ok : bookF (lawLet dr) (tablesF (lawLet dr) (lawStart dr)) (lawStart dr) = (lawRun dr).2.1 := by
  have := run_end.bk (dr := dr)
  unfold bkSt at this
  rw [List.take_of_length_le (by rw [List.length_zip, let_len', tab_len]; exact Nat.le_refl _)] at this
  unfold bookF
  rw [this]
theorem calls_ok : ((lawRun dr).2.1.2.2.2.2.map (·.2)).sum = 5 - ((lawRun dr).1.length : Int) := run_end.cnt
end
end Mine
end
section
open PySem PySem.W PySem.Calls PyProof.Rows
set_option linter.unusedVariables false
set_option maxRecDepth 100000
namespace Mine
set_option genSizeOf false
set_option genInjectivity false
set_option tactic.hygienic false
section
variable {c : Cx} {n : Nat} {env : Env} {X X₀ own Z : Addr → Prop} {hA : Heap} {os : OsState} {s s' s₀ : Shared} {σ : List (Str × LV)} {d : D} {ds : List D} {pos : Pos} {rest body : List Stmt} {Q : Flow → Shared → Prop}
theorem evn_lsliceT {value : Expr} {lower upper : Option Expr} {p : Pos} {i j : Option Nat} (h : EvD c n X s (eval value env) (.lst ds)) (h1 : EvPt c n s lower env i) (h2 : EvPt c n s upper env j)
    (hi : ∀ a, i = some a → a ≤ ds.length) (hij : ∀ a b, i = some a → j = some b → a ≤ b ∧ b ≤ ds.length) (hsz : ds.length ≤ 100000)
    (hs : autoParam (∀ (t a : Addr), subscripted (.Slice lower upper none p) false (.ref t) (.ref a) = operate [.ref a, .ref t] (getItem (.ref t) (.ref a))) tacW) : EvN c n X s (eval (.Subscript value (.Slice lower upper none p) pos) env) (cutD ds i j) := fun s' e I => by
  refine Subscript_ (wz (h s' e I) (fun v s1 e1 I1 r => wpAny_Slice (wz (h1 s1 (e.trans e1) I1) (fun vl s2 e2 I2 pl => wz (h2 s2 ((e.trans e1).trans e2) I2) (fun vu s3 e3 I3 pu => ?_)))))
  rw [evalPart_none]
  obtain ⟨a, us, rfl, na, hl0, tl0⟩ := r
  have hl : IsL s3.heap a us := list_obj hl0 fun o q1 q2 => (e2.trans e3).keep.get q1 q2
  have tl := TrL.ext tl0 (e2.trans e3)
  have sz : us.size = ds.length := by rw [← tl.length, Array.length_toList]
  have Ea := ext_push s3 { cls := .type "slice", data := .fields #[vl, vu, .none] }
  have Eb := ext_push ({ s3 with heap := s3.heap.push { cls := .type "slice", data := .fields #[vl, vu, .none] } } : Shared) { cls := .type "list", data := .seq (slicePick us (i.map Int.ofNat) (j.map Int.ofNat) none) }
  have szp : (s3.heap.push { cls := .type "slice", data := .fields #[vl, vu, .none] }).objs.size = s3.heap.objs.size + 1 := Heap.size_push _ _
  have EE := (e.trans e1).trans (e2.trans e3)
  refine wpAny_pure (tail_any (hl.is.push _).typeIs list_getitem_lookup (wpAny_getItem_list_slice (hl.is.push _) (Heap.IsSliceOf.new ..) pl pu .none (by simp) ?_ (by show us.size ≤ 2 ^ 24; omega)) (hs _ _))
  refine ⟨(e1.trans (e2.trans e3)).trans (Ea.trans Eb), (I3.keep Ea.keep I3.bare).keep Eb.keep I3.bare, s3.heap.objs.size + 1, _, by rw [szp], ?_, Nat.lt_succ_of_lt I3.size, ⟨0, szp ▸ Heap.get?_push_size _ rfl⟩, ?_⟩
  · rw [← szp]; exact ext_none (EE.trans Ea) (size_none _)
  · rw [← szp]
    exact push_tr (TrL.ext (cut_tr tl i j hi hij) Ea)
theorem Bd.z253 (B : Bd c env X₀ own (fun uu => False) hA os s σ) : Bd c env X₀ own (fun a => a = 253) hA os s σ :=
  { B with
    chg := B.chg.wide fun uu h => h.elim
    mine := fun a h => (B.mine a h).elim (fun h => h.elim) .inr }
end
theorem glued_cps (ss : List Str) : ∀ (acc : Array Nat), (ss.foldl (fun acc p => acc ++ ("" : Str).cps ++ p.cps) acc).size = acc.size + (ss.map (·.length)).sum := by
  induction ss with
  | nil => intro acc; rfl
  | cons a ss ih =>
    intro acc
    rw [List.foldl_cons, ih, List.map_cons, List.sum_cons, empty_cps, Array.size_append, Array.size_append]
    show acc.size + 0 + a.cps.size + _ = acc.size + (a.cps.size + _)
    omega
theorem sum_le (ss : List Str) (h : ∀ x ∈ ss, x.length ≤ 400) : (ss.map (·.length)).sum ≤ 400 * ss.length := by
  induction ss with
  | nil => exact Nat.zero_le _
  | cons a ss ih =>
    have h1 := h a (List.mem_cons_self ..)
    have h2 := ih fun x hx => h x (List.mem_cons_of_mem _ hx)
    simp only [List.map_cons, List.sum_cons, List.length_cons]; omega
theorem glued_len (ss : List Str) (h : ∀ x ∈ ss, x.length ≤ 400) : (Builtin.Str.glued "" ss).length ≤ 400 * ss.length := by
  cases ss with
  | nil => show Array.size _ ≤ _; exact Nat.le_of_eq (by decide +kernel)
  | cons a ss =>
    show ((List.foldl (fun acc p => acc ++ ("" : Str).cps ++ p.cps) a.cps ss)).size ≤ _
    rw [glued_cps]
    have := sum_le (a :: ss) h
    simp only [List.map_cons, List.sum_cons, List.length_cons] at this ⊢
    exact this
theorem fold_len400 (ss : List Str) (h : ∀ x ∈ ss, x.length ≤ 400) : ss.toArray.foldl (fun a b => a + b.length + ("" : Str).length) 0 ≤ 400 * ss.length := by
  have e0 : ("" : Str).length = 0 := by decide +kernel
  rw [e0]
  have key : ∀ (ss : List Str) (a : Nat), (∀ x ∈ ss, x.length ≤ 400) → ss.foldl (fun a b => a + b.length + 0) a ≤ a + 400 * ss.length := by
    intro ss
    induction ss with
    | nil => intro a _; exact Nat.le_refl _
    | cons x ss ih =>
      intro a h
      have h1 := h x (List.mem_cons_self ..)
      have h2 := ih (a + x.length + 0) fun y hy => h y (List.mem_cons_of_mem _ hy)
      simp only [List.foldl_cons, List.length_cons]; omega
  have := key ss 0 h
  simpa using this
noncomputable abbrev lawE (L : Addr) : Env := R_law.env L (cellsFrom (L + 1) (scOf R_law.st).names [])
noncomputable abbrev lawS (k : Nat) : List Stmt := (bodyOf R_law.st).drop k
noncomputable def txtG (T : List Str) : D → Option D := fun d => match d with | .tup [_, _, .int k] => some (.str (T.getD k.toNat "")) | _ => none
theorem txtG_eq (T : List Str) (ly : List Card) : (ly.map cardD).filterMap (txtG T) = (ly.map fun cd => T.getD cd.2.2.toNat "").map D.str := by
  induction ly with
  | nil => rfl
  | cons a ly ih =>
    rw [List.map_cons, List.filterMap_cons]
    show D.str _ :: _ = _
    rw [ih]; rfl
section
variable {c : Cx} {X₀ own : Addr → Prop} {hA : Heap} {os : OsState} {s : Shared} {L : Addr}
theorem law_d {Z : Addr → Prop} {Q : Flow → Shared → Prop} {pile : List D} {ly : List Card} {bk : Book} {T : List Str} {start : Int} {lets : List Let} {tabs : List (List Int)} (O : c.Ok) (K : AccH c)
    (hp : pile = pcsD T ly) (hT : ∀ x ∈ T, x.length ≤ 400) (hTl : T.length ≤ 100) (hl : ly.length ≤ 5) (hix : ∀ cd ∈ ly, 0 ≤ cd.2.2 ∧ cd.2.2 < (T.length : Int)) (hlet : lets.length ≤ 8) (htab : ∀ t ∈ tabs, t ≠ [] ∧ t.length ≤ 1000)
    (hstr : Txt.join "" ((ly.map (pieceOf T)).map pcText) = Txt.join "" (ly.map fun c => T.getD c.2.2.toNat "")) (hbook : bookF lets tabs start = bk) (hcall : (bk.2.2.2.2.map (·.2)).sum = 5 - (ly.length : Int))
    (B : Bd c (lawE L) X₀ own Z hA os s [("pile", .tr (.acc pile start)), ("lying", .tr (.lst (ly.map cardD))), ("book", .tr (bookD bk)), ("letters", .tr (.lst (lets.map prD))), ("tables", .tr (.lst (tabs.map fun t => .lst (t.map D.int)))), ("texts", .tr (.lst (T.map D.str))), ("start", .tr (.int start))])
    (h : ∀ v s', Rt c X₀ Z hA os (.bool true) (.ret v) s' → Q (.ret v) s') : W c 1 (execs (lawS 13) (lawE L)) Q s := by
  subst hp
  have hpl := pieces_len hT ly
  have hss : ∀ x ∈ (ly.map fun cd => T.getD cd.2.2.toNat ""), x.length ≤ 400 := fun x hx => by
    obtain ⟨cd, _, rfl⟩ := List.mem_map.mp hx
    exact getD_len hT _
  have hsl : (ly.map fun cd => T.getD cd.2.2.toNat "").length ≤ 5 := by rw [List.length_map]; exact hl
  have g1 := glued_len _ hss
  have g2 := fold_len400 _ hss
  refine st_if (b := false) B.inv (ev_test (d1 := .str (Txt.join "" ((ly.map (pieceOf T)).map pcText))) (d2 := .str (Builtin.Str.glued "" (ly.map fun cd => T.getD cd.2.2.toNat ""))) (ev_accstr (ps := ly.map (pieceOf T)) O K B.ex (ev_loc B rfl) (by simp; omega) hpl (by decide)) (ev_join ev_str (ev_as (ev_comp (cl := [("texts", L + 3)]) [("texts", .tr (.lst (T.map D.str)))] (txtG T) B ?_ (ec_list (ev_loc (d := .lst (ly.map cardD)) B rfl)) ?_ ?_ (by simp; omega)) (congrArg D.lst (txtG_eq T ly))) ?_ (by omega)) ?_) (fun hb => by cases hb) (fun hb s1 E1 I1 => st_nil ?_)
  · exact {
      clos := rfl
      cell := by decide
      kind := rfl
      names := by decide
      clAt := by intro p hp; simp only [List.mem_cons, List.not_mem_nil, or_false] at hp; subst hp; exact ⟨rfl, rfl⟩
      has := by rfl
      apart := List.pairwise_singleton _ _ }
  · intro C q hq
    simp only [List.mem_cons, List.not_mem_nil, or_false] at hq
    subst hq; exact ⟨rfl, rfl⟩
  · intro C d hd
    obtain ⟨cd, hcd, rfl⟩ := List.mem_map.mp hd
    obtain ⟨i0, i1⟩ := hix cd hcd
    have hTi : (T.map D.str)[(cd.2.2).toNat]? = some (.str (T.getD cd.2.2.toNat "")) := by
      rw [List.getElem?_map, List.getElem?_eq_getElem (by omega), List.getD_eq_getElem?_getD, List.getElem?_eq_getElem (by omega)]; rfl
    refine ⟨[("card", .tr (cardD cd))], asg2_name rfl rfl, fun X₂ own₂ hB' s' B' => ⟨true, tests_nil, (fun h => nomatch h), fun hb => ⟨.str (T.getD cd.2.2.toNat ""), rfl, ev_item_lst (i := cd.2.2) (ev_loc B' rfl) (ev_item_tup (j := 2) (ev_loc (d := cardD cd) B' rfl) ev_int (by decide) (by decide) rfl rfl) i0 (by omega) hTi⟩⟩⟩
  · unfold Builtin.Str.tooLong
    exact decide_eq_false (by show ¬ (_ > 2 ^ 24); omega)
  · rw [show CmpD c 1 .NotEq _ _ false = CmpD c 1 .NotEq (.str (Txt.join "" ((ly.map (pieceOf T)).map pcText))) (.str (Txt.join "" ((ly.map (pieceOf T)).map pcText))) (Txt.join "" ((ly.map (pieceOf T)).map pcText) != Txt.join "" ((ly.map (pieceOf T)).map pcText)) by rw [bne_self_eq_false]; rw [hstr]; rfl]
    exact cmp_nes
  have B1 := B.ext E1 I1
  refine st_if (b := false) B1.inv (ev_test (ev_loc B1 rfl) (ev_as (ev_callN (f := R_book) (ds := [.lst (lets.map prD), .lst (tabs.map fun t => .lst (t.map D.int)), .int start]) B1.ex (ev_fn O B1.inv (inF 12 rfl) rfl) (inF 21 rfl) (Fn.weak (book_fn O lets tabs start (by omega) htab) (by decide)) (.cons (ev_loc B1 rfl) (.cons (ev_loc B1 rfl) (.cons (ev_loc B1 rfl) .nil)))) (congrArg bookD hbook)) (cmp_book (by decide))) (fun hb => by cases hb) (fun hb s2 E2 I2 => st_nil ?_)
  have B2 := B1.ext E2 I2
  have e5 : (decide ((bk.2.2.2.2.map (·.2)).sum = 5 - (((pcsD T ly).length : Nat) : Int))) = true := by
    apply decide_eq_true
    rw [hcall]; simp
  refine st_ret (d := .bool true) B2 (ev_as (ev_cmp (ev_callN (f := R_count) (ds := [.dct bk.2.2.2.2]) (fun b h => B2.ex b (.inl h)) (ev_fn O B2.inv (inF 3 rfl) rfl) (inF 12 rfl) (Fn.weak (count_fn O bk.2.2.2.2) (by decide)) (.cons (ev_item_tup (j := 4) ((ev_loc (d := bookD bk) B2 rfl).less fun b h => .inl h) ev_int (by decide) (by decide) rfl rfl) .nil)) (ev_bin (fun b h => B2.ex b (.inl h)) ev_int (ev_part O K.toAccU (fun b h => B2.ex b (.inl h)) ((ev_loc B2 rfl).less fun b h => .inl h) (by simp; omega) (by decide)) bin_sub) cmp_eq) ?_) fun v s' z => h v s' z
  exact congrArg D.bool e5
noncomputable def sumG (start : Int) (l : List Int) : D → Option D := fun d => match d with | .int m => some (.int (start + (l.take m.toNat).sum)) | _ => none
theorem sumG_eq (start : Int) (l : List Int) : ((List.range (l.length + 1)).map fun i : Nat => D.int i).filterMap (sumG start l) = (preL start l).map D.int := by
  unfold preL
  rw [List.filterMap_map, List.map_map]
  have : ∀ r : List Nat, r.filterMap (sumG start l ∘ fun i : Nat => D.int i) = r.map (D.int ∘ fun m => start + (l.take m).sum) := by
    intro r
    induction r with
    | nil => rfl
    | cons a r ih => rw [List.filterMap_cons]; show D.int _ :: _ = _; rw [ih]; rfl
  exact this _
theorem rangeL_nat (k : Nat) : rangeL 0 (k : Int) = (List.range k).map fun i : Nat => D.int i := by
  unfold rangeL
  have : ((k : Int) - 0).toNat = k := by omega
  rw [this]
  apply List.map_congr_left
  intro i _
  show D.int _ = D.int _
  congr 1; omega
noncomputable def letG : D → Option D := fun d => match d with | .tup [.int a, .int b, _] => some (.tup [.int a, .int b]) | _ => none
theorem letG_eq (row : List Card) : (row.map cardD).filterMap letG = (row.map fun c => (c.1, c.2.1)).map prD := by
  induction row with
  | nil => rfl
  | cons a r ih =>
    rw [List.map_cons, List.filterMap_cons]
    show D.tup _ :: _ = _
    rw [ih]; rfl
theorem ints_ok (l : List Int) : D.Ok (.lst (l.map D.int)) := by
  constructor
  · show D.plains (l.map D.int) = true
    induction l with
    | nil => rfl
    | cons a l ih => show (true && D.plains (l.map D.int)) = true; rw [ih]; rfl
  · show D.deps (l.map D.int) + 1 ≤ 60
    have : D.deps (l.map D.int) ≤ 1 := by
      induction l with
      | nil => exact Nat.zero_le _
      | cons a l ih => exact Nat.max_le.mpr ⟨Nat.zero_le _, ih⟩
    omega
noncomputable abbrev lawσ (pile : List D) (ly : List Card) (bk : Book) (T : List Str) (start : Int) (lets : List Let) (tabs : List (List Int)) (seen : List Seen) : List (Str × LV) :=
  [("pile", .tr (.acc pile start)), ("lying", .tr (.lst (ly.map cardD))), ("book", .tr (bookD bk)), ("letters", .tr (.lst (lets.map prD))), ("tables", .tr (.lst (tabs.map fun t => .lst (t.map D.int)))), ("texts", .tr (.lst (T.map D.str))), ("start", .tr (.int start)), ("seen", .tr (.lst (seen.map seenD)))]
theorem law_c {Z : Addr → Prop} {Q : Flow → Shared → Prop} {pile : List D} {ly : List Card} {bk : Book} {T : List Str} {start : Int} {lets : List Let} {tabs : List (List Int)} {seen : List Seen} (O : c.Ok)
    (hse : ∀ p ∈ seen.zip tabs, p.2 = preL start p.1.2.2 ∧ p.1.1 = p.1.2.2.length ∧ p.1.2.1 = start + p.1.2.2.sum ∧ p.1.2.2.length ≤ 100)
    (B : Bd c (lawE L) X₀ own Z hA os s (lawσ pile ly bk T start lets tabs seen))
    (h : ∀ s', Bd c (lawE L) X₀ own Z hA os s' (lawσ pile ly bk T start lets tabs seen) → W c 1 (execs (lawS 13) (lawE L)) Q s') : W c 1 (execs (lawS 12) (lawE L)) Q s := by
  refine st_forT (fun _ : Unit => own) (fun uu => lawσ pile ly bk T start lets tabs seen)
    (fun rest uu => ∃ r : List (Seen × List Int), rest = r.map (fun p => .tup [seenD p.1, .lst (p.2.map D.int)]) ∧ ∀ p ∈ r, p.2 = preL start p.1.2.2 ∧ p.1.1 = p.1.2.2.length ∧ p.1.2.1 = start + p.1.2.2.sum ∧ p.1.2.2.length ≤ 100) () (fun uu => False) B
    (ei_zip O (ev_loc B rfl) (ev_loc B rfl)) ⟨seen.zip tabs, ?_, hse⟩ rfl ?_ ?_ ?_ ?_
  · clear hse B h
    induction seen generalizing tabs with
    | nil => rfl
    | cons a seen ih =>
      cases tabs with
      | nil => rfl
      | cons b tabs => exact congrArg (_ :: ·) ih
  · exact (pk rfl (pk rfl (pk rfl (pk rfl (pk rfl (pk rfl (pk rfl (pk rfl pk0))))))))
  · intro Q' d rest x X₁ hB s2 hQ hR zp B2 v tv
    obtain ⟨r, hr, hgood⟩ := zp
    cases r with
    | nil => cases hr
    | cons p r =>
    injection hr with h1 h2
    subst h1
    have g0 := hgood p (List.mem_cons_self ..)
    have hgr : ∀ p ∈ r, p.2 = preL start p.1.2.2 ∧ p.1.1 = p.1.2.2.length ∧ p.1.2.1 = start + p.1.2.2.sum ∧ p.1.2.2.length ≤ 100 := fun p hp => hgood p (List.mem_cons_of_mem _ hp)
    clear hgood
    obtain ⟨⟨told1, told2, told3⟩, table⟩ := p
    obtain ⟨t1, t2, t3, t4⟩ := g0
    replace t1 : table = preL start told3 := t1
    replace t2 : told1 = told3.length := t2
    replace t3 : told2 = start + told3.sum := t3
    replace t4 : told3.length ≤ 100 := t4
    subst t1 t2 t3
    have pl := preL_len start told3
    have lastE : ((preL start told3).map D.int).getLast? = some (.int (start + told3.sum)) := by
      rw [List.getLast?_eq_getElem?, List.length_map, pl, List.getElem?_map]
      show ((preL start told3)[told3.length]?).map D.int = _
      rw [preL_get (Nat.le_refl _), List.take_length]; rfl
    refine use_tuple ["told", "table"] B2 tv fun s3 B3 => ?_
    refine st_if (b := false) B3.inv (Ev.imp (ev_or (b1 := false) (b2 := false) (Ev.imp (ev_test (ev_item_tup (j := 0) (ev_loc (d := seenD ((told3.length : Int), start + told3.sum, told3)) B3 rfl) ev_int (by decide) (by decide) rfl rfl) (ev_bin B3.ex (ev_len O (ev_loc (d := .lst ((preL start told3).map D.int)) B3 rfl) (by rw [List.length_map, pl]; omega)) ev_int bin_sub) cmp_ne) fun uu uu uu uu e => ?_) fun uu => Ev.imp (ev_test (ev_item_tup (j := 1) (ev_loc (d := seenD ((told3.length : Int), start + told3.sum, told3)) B3 rfl) ev_int (by decide) (by decide) rfl rfl) (ev_item_last (ev_loc (d := .lst ((preL start told3).map D.int)) B3 rfl) (ev_neg ev_int) lastE (by rw [List.length_map, pl]; omega)) cmp_ne) fun uu uu uu uu e => ?_) fun uu uu uu uu e => e) (fun hb => by cases hb) (fun hb s4 E4 I4 => st_nil ?_)
    · rw [e, bne_eq_false_iff_eq, List.length_map, pl]; omega
    · rw [e]; exact bne_self_eq_false _
    have B4 := B3.ext E4 I4
    refine st_if (b := false) B4.inv (ev_test (d1 := .lst ((preL start told3).map D.int)) (d2 := .lst ((preL start told3).map D.int)) (ev_as (ev_comp (cl := [("told", L + 4), ("start", L + 2)]) [("told", .tr (seenD ((told3.length : Int), start + told3.sum, told3))), ("start", .tr (.int start))] (sumG start told3) B4 ?_ (ec_range_of (ev_range1 O (ev_bin (d := .int ((told3.length + 1 : Nat) : Int)) B4.ex (ev_len O (ev_item_tup (j := 2) (ev_loc (d := seenD ((told3.length : Int), start + told3.sum, told3)) B4 rfl) ev_int (by decide) (by decide) rfl rfl) (by rw [List.length_map]; show told3.length ≤ 1000; omega)) ev_int ?_)) (by decide) (by decide) (by omega) (by omega)) ?_ ?_ ?_) ?_) (ev_loc B4 rfl) ?_) (fun hb => by cases hb) (fun hb s5 E5 I5 => st_nil (st_nil ?_))
    · exact {
        clos := rfl
        cell := by decide
        kind := rfl
        names := by decide
        clAt := by
          refine al ?_ (al ?_ al0) <;> exact ⟨rfl, rfl⟩
        has := by rfl
        apart := List.pairwise_cons.mpr ⟨by intro p hp; simp only [List.mem_cons, List.not_mem_nil, or_false] at hp; subst hp; exact fun e => absurd (Nat.add_left_cancel (n := L) (m := 4) (k := 2) e) (by decide), List.pairwise_singleton _ _⟩ }
    · have e : BinD c 1 .Add (.int (((told3.map D.int).length : Nat) : Int)) (.int 1) (.int (((told3.map D.int).length : Nat) + 1 : Int)) := bin_add
      rw [List.length_map] at e
      show BinD c 1 .Add (.int (((told3.map D.int).length : Nat) : Int)) (.int 1) _
      rw [List.length_map]
      exact e
    · intro C
      refine al ?_ (al ?_ al0) <;> exact ⟨rfl, rfl⟩
    · intro C d hd
      rw [rangeL_nat] at hd
      obtain ⟨m, hm, rfl⟩ := List.mem_map.mp hd
      have hm := List.mem_range.mp hm
      refine ⟨[("many", .tr (.int (m : Int)))], asg2_name rfl rfl, fun X₂ own₂ hB' s' B' => ⟨true, tests_nil, (fun h => nomatch h), fun hb => ⟨.int (start + (told3.take m).sum), rfl, ev_bin B'.ex (ev_loc B' rfl) (ev_sum O (ev_as (EvN.tr (evn_lsliceT (i := none) (j := some m) (ev_item_tup (j := 2) (ev_loc (d := seenD ((told3.length : Int), start + told3.sum, told3)) B' rfl) ev_int (by decide) (by decide) rfl rfl) evpt_none (evpt_some (X := fun b => X₂ b ∨ own₂ b) (ev_loc (x := "many") B' rfl)) (fun uu e => by cases e) (fun uu uu e => by cases e) (by rw [List.length_map]; show told3.length ≤ 100000; omega)) B'.ex) ?_)) bin_add⟩⟩⟩
      show D.lst ((told3.map D.int).take m) = _
      rw [List.map_take]
    · rw [rangeL_nat, List.length_map, List.length_range]; omega
    · rw [rangeL_nat]
      exact congrArg D.lst (sumG_eq start told3)
    · have q := cmp_ned (c := c) (n := 1) (ints_ok (preL start told3)) (ints_ok (preL start told3)) (by decide)
      rw [D.eqv_refl _ (ints_ok (preL start told3)).plain] at q
      exact q
    · refine hQ () _ ⟨r, h2, hgr⟩ ((B4.ext E5 I5).pick ?_)
      exact (pk rfl (pk rfl (pk rfl (pk rfl (pk rfl (pk rfl (pk rfl (pk rfl pk0))))))))
  · intro x s1 zp B1
    obtain ⟨r, hr, _⟩ := zp
    exact h s1 B1
  · intro d v s' hd
    exact hd.elim
noncomputable def cardG (dr : List Int) : D → Option D := fun d => match d with | .int k => some (cardD (cardAt (lawK dr) (lawZ dr) k.toNat)) | _ => none
noncomputable def writG (f : Int → Str) : D → Option D := fun d => match d with | .int x => some (.str (f x)) | _ => none
theorem writG_eq (f : Int → Str) (dr : List Int) : (dr.map D.int).filterMap (writG f) = (dr.map f).map D.str := by
  induction dr with
  | nil => rfl
  | cons a r ih =>
    rw [List.map_cons, List.filterMap_cons]
    show D.str _ :: _ = _
    rw [ih]; rfl
theorem strs_ok (T : List Str) (h : ∀ x ∈ T, PyData.strOk x = true) : D.Ok (.lst (T.map D.str)) := by
  constructor
  · show D.plains (T.map D.str) = true
    induction T with
    | nil => rfl
    | cons a l ih => show (PyData.strOk a && D.plains (l.map D.str)) = true; rw [ih fun x hx => h x (List.mem_cons_of_mem _ hx), h a (List.mem_cons_self ..)]; rfl
  · show D.deps (T.map D.str) + 1 ≤ 60
    have : D.deps (T.map D.str) ≤ 1 := by
      clear h
      induction T with
      | nil => exact Nat.zero_le _
      | cons a l ih => exact Nat.max_le.mpr ⟨Nat.zero_le _, ih⟩
    omega
theorem let_len {dr : List Int} (h5 : dr.length = 5) : (lawLet dr).length = 5 := by
  unfold lawLet; rw [List.length_map]; exact row_len h5
theorem tabs_fn {dr : List Int} (O : c.Ok) (h5 : dr.length = 5) : Fn c 1 (.ref R_tables.a) [.lst ((lawLet dr).map prD), .int (lawStart dr)] (.lst ((tablesF (lawLet dr) (lawStart dr)).map fun t => .lst (t.map D.int))) :=
  Fn.weak (tables_fn O (lawLet dr) (lawStart dr) (Nat.le_trans (Nat.le_of_eq (let_len h5)) (by decide)) (tab_ok _ _ (let_ok h5))) (by decide)
theorem law_b5 {dr : List Int} {Z : Addr → Prop} {Q : Flow → Shared → Prop} (O : c.Ok) (K : AccH c) (h5 : dr.length = 5) (B5 : Bd c (lawE L) X₀ own Z hA os s [("seen", .tr (.lst ((lawRun dr).2.2.map seenD))), ("book", .tr (bookD (lawRun dr).2.1)), ("lying", .tr (.lst ((lawRun dr).1.map cardD))), ("pile", .tr (.acc (pcsD (lawT dr) (lawRun dr).1) (lawStart dr))), ("row", .tr (.lst ((lawRow dr).map cardD))), ("texts", .tr (.lst ((lawT dr).map D.str))), ("start", .tr (.int (lawStart dr)))])
    (h : ∀ v s', Rt c X₀ Z hA os (.bool true) (.ret v) s' → Q (.ret v) s') : W c 1 (execs (lawS 10) (lawE L)) Q s := by
  have hTl : (lawT dr).length = 5 := by unfold lawT; rw [List.length_map]; exact h5
  have hT : ∀ x ∈ lawT dr, x.length ≤ 400 := fun x hx => by
    obtain ⟨i, _, rfl⟩ := List.mem_map.mp hx
    exact textF_len i
  have hrow := row_len h5
  have hix : ∀ cd ∈ lawRow dr, 0 ≤ cd.2.2 ∧ cd.2.2 < ((lawT dr).length : Int) := fun cd hc => by
    have := row_ix h5 cd hc
    rw [hTl]; exact this
  refine st_comp (cl := []) [] letG B5 ?_ (ec_list (ev_loc (d := .lst ((lawRow dr).map cardD)) B5 rfl)) (fun C q hq => nomatch hq) ?_ (by rw [List.length_map]; omega) fun s6 B6 => ?_
  · exact {
      clos := rfl
      cell := by decide
      kind := rfl
      names := by decide
      clAt := fun p hp => nomatch hp
      has := by rfl
      apart := List.Pairwise.nil }
  · intro C d hd
    obtain ⟨cd, hcd, rfl⟩ := List.mem_map.mp hd
    exact ⟨[("card", .tr (cardD cd))], asg2_name rfl rfl, fun X₂ own₂ hB' s' B' => ⟨true, tests_nil, (fun h => nomatch h), fun hb => ⟨.tup [.int cd.1, .int cd.2.1], rfl, ev_tup B'.ex (.cons (ev_item_tup (j := 0) (ev_loc (d := cardD cd) B' rfl) ev_int (by decide) (by decide) rfl rfl) (.cons (ev_item_tup (j := 1) (ev_loc (d := cardD cd) B' rfl) ev_int (by decide) (by decide) rfl rfl) .nil))⟩⟩⟩
  rw [show ((lawRow dr).map cardD).filterMap letG = (lawLet dr).map prD from letG_eq _] at B6
  have hll := let_len h5
  refine st_assign (d := .lst ((tablesF (lawLet dr) (lawStart dr)).map fun t => .lst (t.map D.int))) B6 ?_ fun s7 B7 => ?_
  · exact ev_callN (f := R_tables) (ds := [.lst ((lawLet dr).map prD), .int (lawStart dr)]) B6.ex (ev_fn O B6.inv (inF 11 rfl) rfl) (inF 20 rfl) (tabs_fn O h5) (.cons (ev_loc B6 rfl) (.cons (ev_loc B6 rfl) .nil))
  refine law_c (pile := pcsD (lawT dr) (lawRun dr).1) (ly := (lawRun dr).1) (bk := (lawRun dr).2.1) (T := lawT dr) (start := lawStart dr) (lets := lawLet dr) (tabs := tablesF (lawLet dr) (lawStart dr)) (seen := (lawRun dr).2.2) O (seen_ok (dr := dr) h5) (B7.pick ?_) fun s8 B8 => ?_
  · exact (pk rfl (pk rfl (pk rfl (pk rfl (pk rfl (pk rfl (pk rfl (pk rfl pk0))))))))
  obtain ⟨r1, r2⟩ := run_ly h5
  refine law_d O K rfl hT (by omega) r1 (fun cd hc => hix cd (r2 cd hc)) (by omega) (tabs_ok (dr := dr) h5) (str_ok (dr := dr) h5) (book_ok (dr := dr) h5) (calls_ok (dr := dr) h5) (B8.pick ?_) h
  exact (pk rfl (pk rfl (pk rfl (pk rfl (pk rfl (pk rfl (pk rfl pk0)))))))
theorem law_b4 {dr : List Int} {Z : Addr → Prop} {Q : Flow → Shared → Prop} (O : c.Ok) (K : AccH c) (h5 : dr.length = 5) (B4 : Bd c (lawE L) X₀ own Z hA os s [("longest_first", .tr (.cmp (lawEs dr))), ("row", .tr (.lst ((lawRow dr).map cardD))), ("texts", .tr (.lst ((lawT dr).map D.str))), ("start", .tr (.int (lawStart dr)))])
    (h : ∀ v s', Rt c X₀ Z hA os (.bool true) (.ret v) s' → Q (.ret v) s') : W c 1 (execs (lawS 9) (lawE L)) Q s := by
  have hTl : (lawT dr).length = 5 := by unfold lawT; rw [List.length_map]; exact h5
  have hT : ∀ x ∈ lawT dr, x.length ≤ 400 := fun x hx => by
    obtain ⟨i, _, rfl⟩ := List.mem_map.mp hx
    exact textF_len i
  have hrow := row_len h5
  have hix : ∀ cd ∈ lawRow dr, 0 ≤ cd.2.2 ∧ cd.2.2 < ((lawT dr).length : Int) := fun cd hc => by
    have := row_ix h5 cd hc
    rw [hTl]; exact this
  have hst0 : 0 ≤ lawStart dr := Int.emod_nonneg _ (by decide)
  have hst1 : lawStart dr < 3 := Int.emod_lt_of_pos _ (by decide)
  have m0 : (0 : Int) ≤ dr.sum / 3 % 2 := Int.emod_nonneg _ (by decide)
  have m1 : dr.sum / 3 % 2 < 2 := Int.emod_lt_of_pos _ (by decide)
  have hes : ∀ p ∈ lawEs dr, p.1 = 0 ∨ p.1 = 1 ∨ p.1 = 2 := fun p hp => by
    unfold lawEs at hp
    simp only [List.mem_cons, List.not_mem_nil, or_false] at hp
    rcases hp with rfl | rfl
    · exact .inr (.inl rfl)
    · exact .inr (.inr rfl)
  refine st_unpack ["pile", "lying", "book", "seen"] B4 (ev_callN (f := R_run) (ds := [.lst ((lawRow dr).map cardD), .lst ((lawT dr).map D.str), .int (lawStart dr), .cmp (lawEs dr)]) B4.ex (ev_fn O B4.inv (inF 9 rfl) rfl) (inF 18 rfl) (Fn.weak (run_fn O K (lawT dr) (lawEs dr) hes (lawStart dr) hst0 (by omega) hT (lawRow dr) (by omega) hix (by omega)) (by decide)) (.cons (ev_loc B4 rfl) (.cons (ev_loc B4 rfl) (.cons (ev_loc B4 rfl) (.cons (ev_loc B4 rfl) .nil))))) fun s5 B5 => ?_
  refine law_b5 O K h5 (B5.pick ?_) h
  exact (pk rfl (pk rfl (pk rfl (pk rfl (pk rfl (pk rfl (pk rfl pk0)))))))
theorem law_b2 {dr : List Int} {Q : Flow → Shared → Prop} (O : c.Ok) (K : AccH c) (KC : CmpK c) (KL : LamK c) (h5 : dr.length = 5)
    (h253 : hA.get? 253 = some (tabObj #[]))
    (B1 : Bd c (lawE L) X₀ own (fun uu => False) hA os s [("cards", .tr (.lst ((lawCards dr).map cardD))), ("texts", .tr (.lst ((lawT dr).map D.str))), ("start", .tr (.int (lawStart dr))), ("turn", .tr (.int dr.sum)), ("drawn", .tr (.lst (dr.map D.int)))])
    (h : ∀ v s', Rt c X₀ (fun a => a = 253) hA os (.bool true) (.ret v) s' → (∃ ps, s'.heap.get? 253 = some (tabObj ps)) → Q (.ret v) s') : W c 1 (execs (lawS 6) (lawE L)) Q s := by
  have m0 : (0 : Int) ≤ dr.sum / 3 % 2 := Int.emod_nonneg _ (by decide)
  have m1 : dr.sum / 3 % 2 < 2 := Int.emod_lt_of_pos _ (by decide)
  refine st_assign (d := .lst ((lawRow dr).map cardD)) B1 (ev_callN (f := R_order) (ds := [.cmp es0, .lst ((lawCards dr).map cardD)]) B1.ex (ev_fn O B1.inv (inF 8 rfl) rfl) (inF 17 rfl) (Fn.weak (order_fn O es0 (by decide) (lawCards dr) (by show (5 : Nat) ≤ 100; decide)) (by decide)) (.cons (ev_mkcmp (es := es0) O KC B1.ex B1.inv ((evn_lst (ds := es0.map prD) (.cons (ev_tup B1.ex (.cons ev_int (.cons ev_int .nil))) (.cons (ev_tup B1.ex (.cons ev_int (.cons ev_int .nil))) .nil))).tr B1.ex) (by decide)) (.cons (ev_loc B1 rfl) .nil))) fun s2 B2 => ?_
  have k253 : s2.heap.get? 253 = some (tabObj #[]) := by
    rcases B2.chg 253 _ h253 with q | q | ⟨q, _⟩
    · exact q.elim
    · exact q
    · exact absurd q (by decide)
  refine st_sortcheck (K := lawK dr) (z := lawZ dr) O KL (by decide) B2.z253 rfl k253 (fun i j uu uu ne e => ne (by have e : (i : Int) = (j : Int) := e; omega)) rfl rfl fun s3 B3 k3 => ?_
  have B3a := B3.anew
  refine st_assign (d := .cmp (lawEs dr)) B3a (ev_mkcmp (es := lawEs dr) O KC B3a.ex B3a.inv ((evn_lst (ds := (lawEs dr).map prD) (.cons (ev_tup B3a.ex (.cons ev_int (.cons (ev_neg ev_int) .nil))) (.cons (ev_tup B3a.ex (.cons ev_int (.cons (ev_bin B3a.ex ev_int (ev_bin B3a.ex (ev_bin B3a.ex (ev_bin B3a.ex (ev_loc B3a rfl) ev_int (bin_fdiv (by decide) (by decide))) ev_int (bin_mod (by decide))) ev_int (bin_mul ⟨m0, by omega⟩ (by decide))) bin_sub) .nil))) .nil)) (by rfl)).tr B3a.ex) (by decide)) fun s4 B4 => ?_
  refine law_b4 O K h5 (B4.pick ?_) fun v s' zp => ?_
  rotate_left
  · obtain ⟨r1, r2, r3, r4⟩ := zp
    refine h v s' ⟨r1, B3.chg.trans r2 B3.mine, r3, r4⟩ ?_
    obtain ⟨ps, e⟩ := k3
    rcases r2 253 _ e with q | q | ⟨q, _⟩
    · exact absurd (B3.far 253 q) (by decide)
    · exact ⟨ps, q⟩
    · exact absurd q (by decide)
  exact (pk rfl (pk rfl (pk rfl (pk rfl pk0))))
theorem law_b {dr : List Int} {Q : Flow → Shared → Prop} (O : c.Ok) (K : AccH c) (KC : CmpK c) (KL : LamK c) (h5 : dr.length = 5)
    (h253 : hA.get? 253 = some (tabObj #[]))
    (B : Bd c (lawE L) X₀ own (fun uu => False) hA os s [("texts", .tr (.lst ((lawT dr).map D.str))), ("start", .tr (.int (lawStart dr))), ("turn", .tr (.int dr.sum)), ("drawn", .tr (.lst (dr.map D.int)))])
    (h : ∀ v s', Rt c X₀ (fun a => a = 253) hA os (.bool true) (.ret v) s' → (∃ ps, s'.heap.get? 253 = some (tabObj ps)) → Q (.ret v) s') : W c 1 (execs (lawS 5) (lawE L)) Q s := by
  have hTl : (lawT dr).length = 5 := by unfold lawT; rw [List.length_map]; exact h5
  have hT : ∀ x ∈ lawT dr, x.length ≤ 400 := fun x hx => by
    obtain ⟨i, _, rfl⟩ := List.mem_map.mp hx
    exact textF_len i
  refine st_comp (cl := [("texts", L + 3), ("drawn", L + 1)]) [("texts", .tr (.lst ((lawT dr).map D.str))), ("drawn", .tr (.lst (dr.map D.int)))] (cardG dr) B ?_ (ec_range_of (ev_range1 O (ev_int (X := fun uu => False))) (by decide) (by decide) (by decide) (by decide)) ?_ ?_ (by decide) fun s1 B1 => ?_
  · exact {
      clos := rfl
      cell := by decide
      kind := rfl
      names := by decide
      clAt := by
        refine al ?_ (al ?_ al0) <;> exact ⟨rfl, rfl⟩
      has := by rfl
      apart := List.pairwise_cons.mpr ⟨by intro p hp; simp only [List.mem_cons, List.not_mem_nil, or_false] at hp; subst hp; exact fun e => absurd (Nat.add_left_cancel (n := L) (m := 3) (k := 1) e) (by decide), List.pairwise_singleton _ _⟩ }
  · intro C
    refine al ?_ (al ?_ al0) <;> exact ⟨rfl, rfl⟩
  · intro C d hd
    rw [show (rangeL 0 5) = (List.range 5).map fun i : Nat => D.int i from rangeL_nat 5] at hd
    obtain ⟨k, hk, rfl⟩ := List.mem_map.mp hd
    have hk := List.mem_range.mp hk
    have hdk : (dr.map D.int)[((k : Int)).toNat]? = some (.int (dr.getD k 0)) := by
      rw [List.getElem?_map, List.getD_eq_getElem?_getD, Int.toNat_natCast, List.getElem?_eq_getElem (by omega)]; rfl
    have hTk : ((lawT dr).map D.str)[((k : Int)).toNat]? = some (.str ((lawT dr).getD k "")) := by
      rw [List.getElem?_map, List.getD_eq_getElem?_getD, Int.toNat_natCast, List.getElem?_eq_getElem (by omega)]; rfl
    have m0 : (0 : Int) ≤ dr.getD k 0 / 4 % 10 := Int.emod_nonneg _ (by decide)
    have m1 : dr.getD k 0 / 4 % 10 < 10 := Int.emod_lt_of_pos _ (by decide)
    have tl := getD_len hT k
    refine ⟨[("k", .tr (.int (k : Int)))], asg2_name rfl rfl, fun X₂ own₂ hB' s' B' => ⟨true, tests_nil, (fun h => nomatch h), fun hb => ⟨cardD (cardAt (lawK dr) (lawZ dr) k), rfl, ?_⟩⟩⟩
    exact ev_tup B'.ex (.cons (ev_bin B'.ex (ev_bin B'.ex (ev_bin B'.ex (ev_bin B'.ex (ev_item_lst (i := (k : Int)) (d := .int (dr.getD k 0)) (ev_loc (d := .lst (dr.map D.int)) B' rfl) (ev_loc B' rfl) (by omega) (by omega) hdk) ev_int (bin_fdiv (by decide) (by decide))) ev_int (bin_mod (by decide))) ev_int (bin_mul ⟨m0, by omega⟩ (by decide))) ev_int bin_add) (.cons (ev_lenS O (ev_item_lst (i := (k : Int)) (d := .str ((lawT dr).getD k "")) (ev_loc (d := .lst ((lawT dr).map D.str)) B' rfl) (ev_loc B' rfl) (by omega) (by omega) hTk) (by omega)) (.cons (ev_loc B' rfl) .nil)))
  exact law_b2 O K KC KL h5 h253 B1 h
theorem law_a {dr : List Int} {script : List Int} {Q : Flow → Shared → Prop} (O : c.Ok2) (K : AccH c) (KC : CmpK c) (KL : LamK c) (hs : script.length ≤ 1000) (hdr : dr = drawnF script)
    (h253 : hA.get? 253 = some (tabObj #[]))
    (B : Bd c (lawE L) X₀ own (fun uu => False) hA os s [("script", .tr (.lst (script.map D.int)))])
    (h : ∀ v s', Rt c X₀ (fun a => a = 253) hA os (.bool true) (.ret v) s' → (∃ ps, s'.heap.get? 253 = some (tabObj ps)) → Q (.ret v) s') : W c 1 (execs (lawS 0) (lawE L)) Q s := by
  have h5 : dr.length = 5 := hdr ▸ drawn_len script
  have hpos : ∀ x ∈ dr, 0 ≤ x := hdr ▸ drawn_pos script
  refine st_assign (d := .lst (dr.map D.int)) B ?_ fun s1 B1 => ?_
  · rw [hdr]
    exact ev_callN (f := R_drawn) (ds := [.lst (script.map D.int)]) B.ex (ev_fn O.toOk B.inv (inF 5 rfl) rfl) (inF 14 rfl) (Fn.weak (drawn_fn O.toOk script hs) (by decide)) (.cons (ev_loc B rfl) .nil)
  refine st_assign (d := .int dr.sum) B1 (ev_sum O.toOk (ev_loc B1 rfl)) fun s2 B2 => ?_
  refine st_assign (d := .int (lawStart dr)) B2 (ev_bin B2.ex (ev_loc B2 rfl) ev_int (bin_mod (by decide))) fun s3 B3 => ?_
  refine st_assign (d := .lst ((lawT dr).map D.str)) B3 (ev_as (ev_comp (cl := []) [] (writG textF) B3 ?_ (ec_list (ev_loc (d := .lst (dr.map D.int)) B3 rfl)) (fun C q hq => nomatch hq) ?_ (by simp; omega)) (congrArg D.lst (writG_eq textF dr))) fun s4 B4 => ?_
  · exact {
      clos := rfl
      cell := by decide
      kind := rfl
      names := by decide
      clAt := fun p hp => nomatch hp
      has := by rfl
      apart := List.Pairwise.nil }
  · intro C d hd
    obtain ⟨x, hx, rfl⟩ := List.mem_map.mp hd
    refine ⟨[("x", .tr (.int x))], asg2_name rfl rfl, fun X₂ own₂ hB' s' B' => ⟨true, tests_nil, (fun h => nomatch h), fun hb => ⟨.str (textF x), rfl, ?_⟩⟩⟩
    exact ev_callN (f := R_quote) (ds := [.str (writF x)]) B'.ex (ev_fn O.toOk B'.inv (inF 4 rfl) rfl) (inF 13 rfl) (Fn.weak (quote_fn' O x) (by decide)) (.cons (ev_callN (f := R_written) (ds := [.int x]) B'.ex (ev_fn O.toOk B'.inv (inF 6 rfl) rfl) (inF 15 rfl) (Fn.weak (written_fn' O.toOk x (hpos x hx)) (by decide)) (.cons (ev_loc B' rfl) .nil)) .nil)
  refine st_if (b := false) B4.inv (ev_test (d1 := .lst ((lawT dr).map D.str)) (d2 := .lst ((lawT dr).map D.str)) (ev_loc B4 rfl) (ev_as (ev_comp (cl := []) [] (writG textF) B4 ?_ (ec_list (ev_loc (d := .lst (dr.map D.int)) B4 rfl)) (fun C q hq => nomatch hq) ?_ (by simp; omega)) (congrArg D.lst (writG_eq textF dr))) ?_) (fun hb => by cases hb) (fun hb s5 E5 I5 => st_nil ?_)
  · exact {
      clos := rfl
      cell := by decide
      kind := rfl
      names := by decide
      clAt := fun p hp => nomatch hp
      has := by rfl
      apart := List.Pairwise.nil }
  · intro C d hd
    obtain ⟨x, hx, rfl⟩ := List.mem_map.mp hd
    refine ⟨[("x", .tr (.int x))], asg2_name rfl rfl, fun X₂ own₂ hB' s' B' => ⟨true, tests_nil, (fun h => nomatch h), fun hb => ⟨.str (textF x), rfl, ?_⟩⟩⟩
    exact ev_callN (f := R_sent) (ds := [.int x]) B'.ex (ev_fn O.toOk B'.inv (inF 7 rfl) rfl) (inF 16 rfl) (Fn.weak (sent_fn' O.toOk x (hpos x hx)) (by decide)) (.cons (ev_loc B' rfl) .nil)
  · have ok := strs_ok (lawT dr) fun x hx => by
      obtain ⟨i, _, rfl⟩ := List.mem_map.mp hx
      exact textF_ok i
    have q := cmp_ned (c := c) (n := 1) ok ok (by decide)
    rw [D.eqv_refl _ ok.plain] at q
    exact q
  refine law_b O.toOk K KC KL h5 h253 ((B4.ext E5 I5).pick ?_) h
  exact (pk rfl (pk rfl (pk rfl (pk rfl pk0))))
end
end Mine
end
section
open PySem PySem.W PySem.Calls PyProof.Rows
set_option linter.unusedVariables false
set_option maxRecDepth 100000
namespace Mine
set_option genSizeOf false
set_option genInjectivity false
theorem ok_law : R_law.Ok ["script"] where
  mem := inF 22 rfl
  cl := rfl
  bind := fun kV doc pm an ct vs h => by
    obtain ⟨a, rfl⟩ := len1 h
    rfl
  kinds := by rfl
  nodup := by decide
  cnodup := by decide
  celled := by rfl
  co := rfl
  gen := rfl
  fun_ := rfl
theorem law_call {c : Cx} {script : List Int} {s : Shared} {vs : List Value} (O : c.Ok2) (K : AccH c) (KC : CmpK c) (KL : LamK c) (hs : script.length ≤ 1000) (I : Inv c s) (h253 : s.heap.get? 253 = some (tabObj #[])) (t : TrL s.heap (fun uu => False) [.lst (script.map D.int)] vs) :
    W c 0 (call (.ref 256) vs) (fun v s' => v = .bool true ∧ AllBare s'.gens ∧ Kp (fun a => a = 253) s.heap s'.heap ∧ s'.os = s.os ∧ ∃ ps, s'.heap.get? 253 = some (tabObj ps)) s := by
  refine callG (f := R_law) (names := ["script"]) (X := fun uu => False) (lent := fun uu => False) (lvs := [.tr (.lst (script.map D.int))]) ok_law rfl (by decide) I (fun uu h => h.elim) (fun uu h => h.elim) ?_ fun own s1 L cells hcl hsub B => ?_
  · exact LVs.of_trL (ds := [.lst (script.map D.int)]) (TrL.mv (.less fun uu q => q.elim id id) _ _ t)
  subst hcl
  refine law_a (script := script) O K KC KL hs rfl h253 B fun v s' zp r5 => ?_
  obtain ⟨r1, r2, r3, r4⟩ := zp
  have r4 : v = .bool true := r4
  subst r4
  exact ⟨rfl, r1.bare, r2, r3, r5⟩
noncomputable def fdOf (f : FnRec) (o : Option Obj) : FuncData := match o with
  | some ⟨_, _, .func fd, _⟩ => fd
  | _ => f.data .none .none .none none .none
noncomputable def flds (o : Option Obj) : Array Value := match o with
  | some ⟨_, _, .fields vs, _⟩ => vs
  | _ => #[]
noncomputable def strV : Value → Option Str
  | .str q _ => some q
  | _ => none
theorem strV_some {v : Value} {q : Str} (e : strV v = some q) : ∃ t, v = .str q t := by
  cases v <;> first | exact nsome e | exact ⟨_, congrArg (Value.str · _) (Option.some.inj e)⟩
noncomputable def cdForm (K : Frag) (f : FnRec) : Option (Value × Data) := some (.type "code", .fields (flds (K.lookup f.cd)))
noncomputable def fnForm (K : Frag) (f : FnRec) : Option (Value × Data) := some (.type "function", .func (f.data (fdOf f (K.lookup f.a)).kwdefaults (fdOf f (K.lookup f.a)).doc (fdOf f (K.lookup f.a)).pyModule (fdOf f (K.lookup f.a)).annotations (fdOf f (K.lookup f.a)).closureTuple))
noncomputable def FnK (K : Frag) (f : FnRec) : Prop := ((K.lookup f.a).map fun o => (o.cls, o.data)) = fnForm K f ∧ ((K.lookup f.cd).map fun o => (o.cls, o.data)) = cdForm K f ∧ ((flds (K.lookup f.cd))[1]?).map strV = some (some f.q)
theorem FnK.at {K : Frag} {f : FnRec} {h : Heap} (x : FnK K f) (X : K.In h) : FnAt h f := by
  obtain ⟨e1, e2, e3⟩ := x
  obtain ⟨o, ho, hd⟩ := Option.map_eq_some_iff.mp e1
  obtain ⟨oc, hk, hc⟩ := Option.map_eq_some_iff.mp e2
  obtain ⟨v, hv, hs⟩ := Option.map_eq_some_iff.mp e3
  obtain ⟨t, rfl⟩ := strV_some hs
  exact ⟨o, _, _, _, _, _, X _ _ ho, congrArg Prod.fst hd, congrArg Prod.snd hd, oc, _, t, X _ _ hk, congrArg Prod.fst hc, congrArg Prod.snd hc, hv⟩
theorem ex_map {α β : Type} {o : Option α} {f : α → β} {b : β} (h : o.map f = some b) : ∃ a, o = some a ∧ f a = b := Option.map_eq_some_iff.mp h
theorem Kp.oldK {h h' : Heap} {c83 c90 c255 : Addr} (k : Kp (fun a => a = 253) h h') (e : h.get? 253 = some (tabObj #[])) (e' : ∃ ps, h'.get? 253 = some (tabObj ps)) (t79 : isCodeTable h 79) (t86 : isCodeTable h 86) (t253 : isCodeTable h 253) : OldK h h' := by
  obtain ⟨ps, e'⟩ := e'
  refine ⟨fun b o ho => ?_, fun b o ho => ?_⟩
  · rcases k b o ho with rfl | q | ⟨hb, ps0, more, rfl, q⟩
    · rw [e] at ho; cases ho
      exact .inr (.inl ⟨t253, rfl, #[], ps, rfl, by rw [e', Array.empty_append]⟩)
    · exact .inl q
    · refine .inr (.inl ⟨?_, rfl, ps0, more.vs, rfl, q⟩)
      have hb : b = 79 ∨ b = 86 := by simpa [tabs] using hb
      rcases hb with rfl | rfl
      · exact t79
      · exact t86
  · rcases k b o ho with rfl | q | ⟨_, _, _, _, q⟩
    · exact ⟨_, e'⟩
    · exact ⟨_, q⟩
    · exact ⟨_, q⟩
end Mine
end
section
open PySem PySem.W PySem.Calls PyProof.Rows
set_option linter.unusedVariables false
set_option maxRecDepth 100000
namespace Mine
set_option genSizeOf false
set_option genInjectivity false
open PySem.Builtin.Re
noncomputable def seqs (o : Option Obj) : Array Value × Nat := match o with
  | some ⟨_, _, .seq vs n, _⟩ => (vs, n)
  | _ => (#[], 0)
theorem pat_in {K : Frag} {h : Heap} {a ct : Addr} {code : Array Nat} (X : K.In h) (e1 : ((K.lookup a).map fun o => (o.cls, o.dict, o.data)) = some (.type "re.Pattern", none, .fields (flds (K.lookup a)))) (e2 : (flds (K.lookup a)).getD 5 .none = .ref ct) (e3 : reRawNat ((flds (K.lookup a)).getD 6 .none) = 0) (e4 : reRawNat ((flds (K.lookup a)).getD 2 .none) = 0)
    (e5 : ((K.lookup ct).map fun o => (o.cls, o.data)) = some (.type "tuple", .seq (seqs (K.lookup ct)).1 (seqs (K.lookup ct)).2)) (e6 : ((seqs (K.lookup ct)).1.map reRawOf).map (·.toNat) = code) : PatOk h a code := by
  obtain ⟨o, h1, h2⟩ := Option.map_eq_some_iff.mp e1
  obtain ⟨oc, h3, h4⟩ := Option.map_eq_some_iff.mp e5
  refine ⟨o, _, ct, oc, _, _, X _ _ h1, congrArg Prod.fst h2, congrArg (fun p => p.2.1) h2, congrArg (fun p => p.2.2) h2, e2, e3, e4, X _ _ h3, ?_, congrArg Prod.snd h4, e6⟩
  rw [show oc.cls = .type "tuple" from congrArg Prod.fst h4]; intro e; cases e
noncomputable def CX (w : World) (mg mb : Str → Option Value) : Cx := ⟨w, hfr.heap_1 w.params, mg, mb⟩
noncomputable def cdFile (K : Frag) (a : Addr) : Option Value := match K.lookup a with
  | some ⟨_, _, .fields vs, _⟩ => vs[2]?
  | _ => none
theorem cd_in {K : Frag} {a : Addr} {f : Str} {t : Tok} (e : cdFile K a = some (.str f t)) (e2 : ((PR.main.file : Str) == f) = true) : ∃ o vs f t, K.lookup a = some o ∧ o.data = .fields vs ∧ vs[2]? = some (.str f t) ∧ ((PR.main.file : Str) == f) = true := by
  unfold cdFile at e
  cases hk : K.lookup a with
  | none => rw [hk] at e; exact nsome e
  | some o =>
    rw [hk] at e
    obtain ⟨oc, od, dt, sl⟩ := o
    cases dt <;> first | exact nsome e | exact ⟨_, _, f, t, rfl, rfl, e, e2⟩
noncomputable def objC (o : Option Obj) : Option (Bool × Bool × Bool × Option Value) := match o with
  | some ⟨_, _, .cls cd, sl⟩ => some (cd.abstract, cd.hasDel, cd.mro.isEmpty, (sl.toList[4]?).join)
  | _ => none
theorem obj_in {K : Frag} {a : Addr} {v : Value} (e : objC (K.lookup a) = some (false, false, false, some v)) : ∃ oc od cd sl, K.lookup a = some ⟨oc, od, .cls cd, sl⟩ ∧ cd.abstract = false ∧ cd.hasDel = false ∧ cd.mro.isEmpty = false ∧ (sl.toList[4]?).join = some v := by
  unfold objC at e
  cases hk : K.lookup a with
  | none => rw [hk] at e; exact nsome e
  | some o =>
    rw [hk] at e
    obtain ⟨oc, od, dt, sl⟩ := o
    cases dt <;> first
      | exact nsome e
      | (have e := Option.some.inj e
         exact ⟨oc, od, _, sl, rfl, congrArg (·.1) e, congrArg (·.2.1) e, congrArg (·.2.2.1) e, congrArg (·.2.2.2) e⟩)
theorem seq_in {K : Frag} {a : Addr} {t : Tok} {n : Nat} (e : ((K.lookup a).map fun o => o.data) = some (.seq #[.int 0 t] n)) : ∃ o t n, K.lookup a = some o ∧ o.data = .seq #[.int 0 t] n := by
  obtain ⟨o, h1, h2⟩ := Option.map_eq_some_iff.mp e
  exact ⟨o, t, n, h1, h2⟩
theorem mro_in {o : Option ClassData} {m : List Value} (e : (o.map fun cd => (cd.mro, cd.hasDict)) = some (m, true)) : ∃ cd, o = some cd ∧ cd.mro = m ∧ cd.hasDict = true := by
  obtain ⟨cd, h1, h2⟩ := Option.map_eq_some_iff.mp e
  exact ⟨cd, h1, congrArg Prod.fst h2, congrArg Prod.snd h2⟩
theorem fnsK (P : Params) : ∀ f ∈ FNS, FnK (hfr.heap_1 P) f := by
  intro f hf
  simp only [FNS, List.mem_cons, List.not_mem_nil, or_false] at hf
  rcases hf with rfl | rfl | rfl | rfl | rfl | rfl | rfl | rfl | rfl | rfl | rfl | rfl | rfl | rfl | rfl | rfl | rfl | rfl | rfl | rfl | rfl | rfl | rfl <;> exact ⟨by kernel_rfl, by kernel_rfl, by kernel_rfl⟩
section
variable {w : World} {mg mb : Str → Option Value} {h : Heap}
theorem cx_ok (X : (hfr.heap_1 w.params).In h) (G : h.Ns mainGlobals mg) (hb : ∀ x : Str, x ≠ "__name__" → mb x = bootBuiltins x) : (CX w mg mb).Ok where
  fn := by
    intro f hf
    simp only [FNS, List.drop, List.mem_cons, List.not_mem_nil, or_false] at hf
    rcases hf with rfl | rfl | rfl | rfl | rfl | rfl | rfl | rfl | rfl | rfl | rfl | rfl | rfl | rfl <;> exact mg_of X G (by kernel_rfl)
  build := mg_of X G (by kernel_rfl)
  empty := ⟨_, mg_of X G (v := .str "" 291) (by kernel_rfl)⟩
  crlf := ⟨_, mg_of X G (v := .str "\r\n" 549) (by kernel_rfl)⟩
  re1 := mg_of X G (by kernel_rfl)
  re2 := mg_of X G (by kernel_rfl)
  acc := mg_of X G (by kernel_rfl)
  comp := mg_of X G (by kernel_rfl)
  ga152 := by kernel_rfl
  sel152 := by kernel_rfl
  cls152 := ex_map (by kernel_rfl)
  cmp152 := by kernel_rfl
  fn149 := by kernel_rfl
  pg152 := by kernel_rfl
  blt := hb
  no := by
    refine al ?_ (al ?_ (al ?_ (al ?_ (al ?_ (al ?_ (al ?_ (al ?_ (al ?_ (al ?_ (al ?_ (al ?_ al0))))))))))) <;> exact mg_none_of X G (by kernel_rfl)
theorem cx_ok2 (X : (hfr.heap_1 w.params).In h) (G : h.Ns mainGlobals mg) (hb : ∀ x : Str, x ≠ "__name__" → mb x = bootBuiltins x) : (CX w mg mb).Ok2 where
  toOk := cx_ok X G hb
  pat1 := fun h X => pat_in (K := hfr.heap_1 w.params) (ct := 188) X (by kernel_rfl) (by kernel_rfl) (by kernel_rfl) (by kernel_rfl) (by kernel_rfl) (by kernel_rfl)
  pat2 := fun h X => pat_in (K := hfr.heap_1 w.params) (ct := 193) X (by kernel_rfl) (by kernel_rfl) (by kernel_rfl) (by kernel_rfl) (by kernel_rfl) (by kernel_rfl)
theorem acc_ok : AccH (CX w mg mb) where
  ga := by kernel_rfl
  gat := by kernel_rfl
  app := by kernel_rfl
  push := by kernel_rfl
  popf := by kernel_rfl
  part := by kernel_rfl
  len := by kernel_rfl
  str := by kernel_rfl
  iter := by kernel_rfl
  ini := by kernel_rfl
  cls := ex_map (by kernel_rfl)
  tapp := by kernel_rfl
  t62 := by kernel_rfl
  t70 := by kernel_rfl
  t114 := by kernel_rfl
  sub := by kernel_rfl
  geti := by kernel_rfl
  seti := by kernel_rfl
  seq := by kernel_rfl
  d63 := seq_in (t := 324) (n := 0) (by kernel_rfl)
  d47 := seq_in (t := 305) (n := 0) (by kernel_rfl)
  cell := ex_map (by kernel_rfl)
  cd113 := cd_in (f := "/claim/cut.py") (t := 372) (by kernel_rfl) (by kernel_rfl)
  cd54 := cd_in (f := "/claim/cut.py") (t := 308) (by kernel_rfl) (by kernel_rfl)
  ob117 := Option.isSome_iff_exists.mp (by kernel_rfl)
  mro := by kernel_rfl
  supl := by kernel_rfl
  supi := by kernel_rfl
  tp := by kernel_rfl
  mro117 := mro_in (by kernel_rfl)
  obj117 := obj_in (by kernel_rfl)
  call117 := by kernel_rfl
  typ117 := by kernel_rfl
  self117 := by kernel_rfl
  ini117 := by kernel_rfl
  t55 := by kernel_rfl
  keep117 := by kernel_rfl
  sa := by kernel_rfl
  taker := by kernel_rfl
  code83 := by kernel_rfl
  code90 := by kernel_rfl
  t84 := by kernel_rfl
  t91 := by kernel_rfl
theorem cmp_ok : CmpK (CX w mg mb) where
  keep152 := by kernel_rfl
  makes := by kernel_rfl
  ini := by kernel_rfl
  t142 := by kernel_rfl
  sa := by kernel_rfl
  over := by kernel_rfl
  taker := by kernel_rfl
theorem lam_ok : LamK (CX w mg mb) where
  no253 := by kernel_rfl
  code255 := by kernel_rfl
end
end Mine
end
section
open PySem PySem.W PySem.Calls PyProof.Rows
set_option linter.unusedVariables false
set_option maxRecDepth 100000
namespace Mine
set_option genSizeOf false
set_option genInjectivity false
set_option tactic.hygienic false
theorem well_ints {P : Params} {h : Heap} {X : Addr → Prop} : ∀ (xs : List Int) (vs : List Value), WellAll P h vs (ofPys (xs.map PyData.int)) → TrL h X (xs.map D.int) vs
  | [], vs, e => by
    have e : WellAll P h vs [] := e
    cases e; rfl
  | x :: xs, vs, e => by
    have e : WellAll P h vs (WData.int x :: ofPys (xs.map PyData.int)) := e
    cases e with
    | cons a b =>
      cases a
      exact ⟨_, _, rfl, ⟨_, rfl⟩, well_ints xs _ b⟩
theorem well_list {P : Params} {h : Heap} {xs : List Int} {v : Value} (e : Well P h v (ofPy (PyData.list (xs.map PyData.int)))) : TrL h (fun uu => False) [.lst (xs.map D.int)] [v] := by
  have e : Well P h v (WData.list (ofPys (xs.map PyData.int))) := e
  cases e with
  | list a b => exact ⟨_, [], rfl, ⟨_, _, rfl, id, ⟨0, a⟩, by rw [List.toList_toArray]; exact well_ints xs _ b⟩, rfl⟩
theorem code_table {h : Heap} {c P : Addr} (x : CodeHd h c P) : isCodeTable h P := by
  obtain ⟨o, vs, file, tf, flags, tg, inF, text, tt, h1, h2, h3, h4, _⟩ := x
  exact ⟨c, o, vs, h1, h2, h3, h4⟩
theorem mem_look {α : Type} : ∀ {l : List (Addr × α)} {a : Addr} {o : α}, l.lookup a = some o → (a, o) ∈ l
  | [], u1, u2, e => by cases e
  | (b, x) :: l, a, o, e => by
    rw [List.lookup_cons] at e
    cases q : (a == b) with
    | true =>
      rw [q] at e
      cases e
      rw [show a = b from beq_iff_eq.mp q]
      exact List.mem_cons_self ..
    | false =>
      rw [q] at e
      exact List.mem_cons_of_mem _ (mem_look e)
theorem low_K (P : Params) : ∀ a o, (hfr.heap_1 P).lookup a = some o → a ∉ tabs ∧ @LE.le Nat _ a 256 := fun a o e => by
  have key : ((hfr.heap_1 P).map (·.1)).all (fun a => a != 79 && a != 86 && Nat.ble a 256) = true := by kernel_rfl
  have hm : a ∈ (hfr.heap_1 P).map (·.1) := List.mem_map_of_mem (f := (·.1)) (mem_look e)
  have := List.all_eq_true.mp key a hm
  simp only [Bool.and_eq_true, bne_iff_ne, ne_eq] at this
  refine ⟨?_, Nat.le_of_ble_eq_true this.2⟩
  simp [tabs, this.1.1, this.1.2]
theorem inv_K {p : Program} {loose : List Str} {mean : ExcName → Option Value} {w : World} {mg mb : Str → Option Value} {s : Shared} (X : (hfr.heap_1 w.params).In s.heap) (T : Top p loose mean mg mb s.heap) (hT8 : ∀ P, P ∈ ([79, 86, 253] : List Addr) → s.heap.get? P = some (tabObj #[])) (hg : s.gens = #[]) : Inv (CX w mg mb) s where
  gl := T.g
  bl := T.b
  lim := T.nolimit
  fn := fun f hf => (fnsK w.params f hf).at X
  kin := X
  low := low_K w.params
  bare := .of_eq hg
  tab := fun a ha => by
    have ha : a = 79 ∨ a = 86 := by simpa [tabs] using ha
    rcases ha with rfl | rfl
    · exact ⟨⟨#[], trivial⟩, hT8 79 (by simp)⟩
    · exact ⟨⟨#[], trivial⟩, hT8 86 (by simp)⟩
  bmod := by
    obtain ⟨bm, ob, h1, h2, h3, h4, h5, h6⟩ := T.bmain
    have e := mg_of X T.g (n := "__builtins__") (v := .ref 4) (by kernel_rfl)
    rw [e] at h1
    cases h1
    exact ⟨ob, e, h3, h4, h5, h6⟩
theorem law_end {p : Program} {loose : List Str} {mean mean' : ExcName → Option Value} {w : World} {mg mb : Str → Option Value} {s : Shared} {xs : List Int} {v : Value} {cl : Str → Option Addr} {claim : ClaimW} {args : List WData} (X : (hfr.heap_1 w.params).In s.heap) (T : Top p loose mean mg mb s.heap) (hT8 : ∀ P, P ∈ ([79, 86, 253] : List Addr) → s.heap.get? P = some (tabObj #[])) (hg : s.gens = #[])
    (e : Well w.params s.heap v (ofPy (PyData.list (xs.map PyData.int)))) (hlen : xs.length ≤ 1000) (hr : ∀ cls, claim.raises args cls = false) (hp : claim.post args (.bool true) args = true) :
    wpAny (model PR w) callerA (call (.ref 256) [v]) (fun v s' => GoodWG claim cl mean' args s (.ok (.ret v)) s') (fun e s' => GoodWG claim cl mean' args s (.error e) s') s := by
  have I := inv_K X T hT8 hg
  have L := lam_ok (w := w) (mg := mg) (mb := mb)
  have K := acc_ok (w := w) (mg := mg) (mb := mb)
  have t79 : isCodeTable s.heap 79 := code_table (codeHd_of_K X K.code83)
  have t86 : isCodeTable s.heap 86 := code_table (codeHd_of_K X K.code90)
  have t253 : isCodeTable s.heap 253 := code_table (codeHd_of_K X L.code255)
  have h253 := hT8 253 (by simp)
  refine wp_weak (A' := AL 0) rfl (by decide) (by decide) rfl rfl ?_
  refine wpAny_mono (law_call (c := CX w mg mb) (cx_ok2 X T.g T.builtins) K cmp_ok L hlen I h253 (well_list e)) (fun v s' zp => ?_) fun uu uu z => z.elim
  obtain ⟨hv, hb, hk, ho, h253'⟩ := zp
  subst hv
  exact ⟨.inl ⟨_, _, [], rfl, hr, ReadsW.bool true, hp, fun uu => ⟨List.nodup_nil, fun uu hm => (nomatch hm)⟩⟩, hk.oldK (c83 := 83) (c90 := 90) (c255 := 255) h253 h253' t79 t86 t253, ho, hb⟩
end Mine
end
section
open PySem PySem.W PyProof.Rows
set_option maxRecDepth 100000
set_option maxHeartbeats 8000000 in
theorem PySem.Challenge.cw_xh0012_01_holds : PySem.Challenge.rw_xh0012_01.Holds := by
  w_on
  o_law
  o_head (kmHook Mine.hfr.heap_1 [2, 3, 32, 34, 35, 37, 38, 39, 42, 47, 48, 49, 51, 52, 54, 55, 56, 58, 59, 61, 62, 63, 64, 66, 67, 69, 70, 71, 73, 74, 76, 77, 78, 80, 81, 83, 84, 85, 87, 88, 90, 91, 92, 93, 95, 96, 98, 99, 100, 102, 103, 105, 106, 107, 108, 110, 111, 113, 114, 115, 116, 117, 118, 119, 122, 124, 125, 127, 128, 136, 138, 139, 141, 142, 143, 145, 146, 148, 149, 150, 151, 152, 153, 154, 157, 159, 160, 162, 163, 164, 166, 167, 169, 170, 171, 173, 174, 176, 177, 178, 180, 181, 183, 184, 188, 189, 193, 194, 195, 197, 198, 200, 201, 202, 204, 205, 207, 208, 209, 211, 212, 214, 215, 216, 218, 219, 221, 222, 223, 225, 226, 228, 229, 230, 233, 234, 235, 238, 239, 240, 243, 244, 245, 247, 248, 250, 251, 252, 255, 256] (fun _ => by kernel_rfl) [79, 86, 253])
  case hw => w_witness2
  intro w s₀ s₁ mg mb G Y fa o pm cd doc dV kV ho hd hcd hD hmg hg args vals as hpre hlay hrd hwl hlo
  have KX := km_in_of Y
  have hT8 := km_tabs_of Y
  refine Ground.open G ?_
  intro T B D TE TW
  have hfa := mg_of KX T.g (n := "law") (v := .ref 256) (by kernel_rfl)
  have hfa : some (Value.ref fa) = some (Value.ref 256) := hmg.symm.trans hfa
  cases hfa
  clear hcd hd hD hmg
  wrow_args hpre hlay hrd hwl hlo
  clear G Y B D TE TW
  all_goals (
    rename Well _ _ _ _ => hw
    rename ¬ _ < _ => hlen
    refine Mine.law_end KX T hT8 hg hw ?_ ?_ ?_)
  · omega
  · intro cls; rfl
  · wrow_post
end
